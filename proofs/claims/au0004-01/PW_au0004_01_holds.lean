import PyProof.Rows.All
import Wide.All
import OpenK.AllK
import Wide.FinOn
import PySem.Challenge.RW_au0004_01
open PySem PySem.W PyProof.Rows
set_option Elab.async false
set_option autoImplicit false
set_option linter.unusedVariables false
set_option linter.unusedSimpArgs false
set_option linter.unnecessarySimpa false
set_option genSizeOf false
noncomputable section
namespace RM
inductive PV where
  | none | bool (b : Bool) | int (i : Int) | str (s : Str)
  | list (xs : List PV) | tup (xs : List PV) | dict (kvs : List (Str × PV)) | obj (i : Nat)
structure G where
  φ : List Addr
  dx : List Addr
  fz : Addr → Option Obj
  fx : Addr → Option Obj
structure KB where
  prog : Program
  w : World
  B0 : Heap
  C : Addr
  os : OsState
  mg : Str → Option Value
  mb : Str → Option Value
  K : Frag
def attrNames : List Str := ["name", "prefs", "matching", "_pref_names", "_original_prefs"]
structure ClsOk (K : Frag) (C : Addr) : Prop where
  ga : findIn K (.ref C) "__getattribute__" = some (some (.builtin "object.__getattribute__"))
  gat : findIn K (.ref C) "__getattr__" = some none
  hd : hasDictIn K C = true
  sa : findIn K (.ref C) "__setattr__" = some (some (.builtin "object.__setattr__"))
  po : plainOver K C = true
  at' : ∀ x ∈ attrNames, (∃ a, findIn K (.ref C) x = some a ∧ noGet K a = true) ∧ takerIn K C x = some none
  eq : findIn K (.ref C) "__eq__" = some (some (.builtin "object.__eq__"))
  ne : findIn K (.ref C) "__ne__" = some (some (.builtin "object.__ne__"))
  sub : subIn K (.ref C) (.type "object") = some true
structure KBok (c : KB) : Prop where
  g : c.B0.Ns mainGlobals c.mg
  b : c.B0.Ns builtinsNs c.mb
  builtins : ∀ x : Str, x ≠ "__name__" → c.mb x = bootBuiltins x
  nolimit : c.B0.NoLimit
  K : c.K.In c.B0
  cls : ClsOk c.K c.C
  sm : ∃ o, c.B0.get? sysModules = some o
structure G.le (g g' : G) : Prop where
  φ : ∀ (i : Nat) (a : Addr), g.φ[i]? = some a → g'.φ[i]? = some a
  dx : ∀ (i : Nat) (a : Addr), g.dx[i]? = some a → g'.dx[i]? = some a
  fz : ∀ a o, g.fz a = some o → g'.fz a = some o
  fx : g'.fx = g.fx
theorem G.le.refl (g : G) : g.le g := ⟨fun _ _ e => e, fun _ _ e => e, fun _ _ e => e, rfl⟩
theorem G.le.trans {a b c : G} (x : a.le b) (y : b.le c) : a.le c :=
  ⟨fun i d e => y.φ i d (x.φ i d e), fun i d e => y.dx i d (x.dx i d e), fun d o e => y.fz d o (x.fz d o e), y.fx.trans x.fx⟩
abbrev tupOf (its : Array Value) (n : Nat) : Obj := { cls := .type "tuple", data := .seq its n }
abbrev HExt (h h' : Heap) : Prop := ∀ b o, h.get? b = some o → h'.get? b = some o
def strHashOf (w : World) (k : Str) : Int := PyData.keyHash w.params k
mutual
inductive Rep (w : World) (g : G) : Value → PV → Prop
  | none : Rep w g .none .none
  | bool (b : Bool) : Rep w g (.bool b) (.bool b)
  | int (i : Int) (t : Tok) : Rep w g (.int i t) (.int i)
  | str (s : Str) (t : Tok) : Rep w g (.str s t) (.str s)
  | list {a : Addr} {its : Array Value} {n : Nat} {xs : List PV} : g.fz a = some (listOf its n) → Reps w g its.toList xs → its.size ≤ sizeLine → Rep w g (.ref a) (.list xs)
  | tup {a : Addr} {its : Array Value} {n : Nat} {xs : List PV} : g.fz a = some (tupOf its n) → Reps w g its.toList xs → its.size ≤ sizeLine → Rep w g (.ref a) (.tup xs)
  | dict {a : Addr} {es : List DictEntry} {n : Nat} {kvs : List (Str × PV)} : (a == sysModules) = false → g.fz a = some (dictOf es n) → RepD w g es kvs → (kvs.map (·.1)).Nodup → es.length ≤ 1000000 → Rep w g (.ref a) (.dict kvs)
  | obj {a : Addr} {i : Nat} : g.φ[i]? = some a → Rep w g (.ref a) (.obj i)
inductive Reps (w : World) (g : G) : List Value → List PV → Prop
  | nil : Reps w g [] []
  | cons {v : Value} {p : PV} {vs : List Value} {ps : List PV} : Rep w g v p → Reps w g vs ps → Reps w g (v :: vs) (p :: ps)
inductive RepD (w : World) (g : G) : List DictEntry → List (Str × PV) → Prop
  | nil : RepD w g [] []
  | cons {k : Str} {t : Tok} {v : Value} {p : PV} {es : List DictEntry} {kvs : List (Str × PV)} : Rep w g v p → RepD w g es kvs → RepD w g (⟨strHashOf w k, .str k t, v⟩ :: es) ((k, p) :: kvs)
end
section
variable {w : World} {g g' : G}
mutual
theorem Rep.mono (hφ : ∀ (i : Nat) (a : Addr), g.φ[i]? = some a → g'.φ[i]? = some a) (hz : ∀ a o, g.fz a = some o → g'.fz a = some o) : ∀ {v : Value} {p : PV}, Rep w g v p → Rep w g' v p
  | _, _, .none => .none
  | _, _, .bool b => .bool b
  | _, _, .int i t => .int i t
  | _, _, .str s t => .str s t
  | _, _, .list e r l => .list (hz _ _ e) (Reps.mono hφ hz r) l
  | _, _, .tup e r l => .tup (hz _ _ e) (Reps.mono hφ hz r) l
  | _, _, .dict q e r d l => .dict q (hz _ _ e) (RepD.mono hφ hz r) d l
  | _, _, .obj e => .obj (hφ _ _ e)
theorem Reps.mono (hφ : ∀ (i : Nat) (a : Addr), g.φ[i]? = some a → g'.φ[i]? = some a) (hz : ∀ a o, g.fz a = some o → g'.fz a = some o) : ∀ {vs : List Value} {ps : List PV}, Reps w g vs ps → Reps w g' vs ps
  | _, _, .nil => .nil
  | _, _, .cons r rs => .cons (Rep.mono hφ hz r) (Reps.mono hφ hz rs)
theorem RepD.mono (hφ : ∀ (i : Nat) (a : Addr), g.φ[i]? = some a → g'.φ[i]? = some a) (hz : ∀ a o, g.fz a = some o → g'.fz a = some o) : ∀ {es : List DictEntry} {kvs : List (Str × PV)}, RepD w g es kvs → RepD w g' es kvs
  | _, _, .nil => .nil
  | _, _, .cons r rs => .cons (Rep.mono hφ hz r) (RepD.mono hφ hz rs)
end
theorem Rep.le {v : Value} {p : PV} (r : Rep w g v p) (l : g.le g') : Rep w g' v p := r.mono l.φ l.fz
theorem Reps.le {v : List Value} {p : List PV} (r : Reps w g v p) (l : g.le g') : Reps w g' v p := r.mono l.φ l.fz
theorem RepD.le {v : List DictEntry} {p : List (Str × PV)} (r : RepD w g v p) (l : g.le g') : RepD w g' v p := r.mono l.φ l.fz
theorem Reps.length {vs : List Value} {ps : List PV} : Reps w g vs ps → vs.length = ps.length
  | .nil => rfl
  | .cons _ r => by simp [Reps.length r]
theorem Reps.append : ∀ {vs vs' : List Value} {ps ps' : List PV}, Reps w g vs ps → Reps w g vs' ps' → Reps w g (vs ++ vs') (ps ++ ps')
  | _, _, _, _, .nil, r => r
  | _, _, _, _, .cons a r, r' => .cons a (Reps.append r r')
theorem Reps.snoc {vs : List Value} {ps : List PV} {v : Value} {p : PV} (r : Reps w g vs ps) (h : Rep w g v p) : Reps w g (vs ++ [v]) (ps ++ [p]) := r.append (.cons h .nil)
theorem Reps.get : ∀ {vs : List Value} {ps : List PV}, Reps w g vs ps → ∀ {i : Nat} {p : PV}, ps[i]? = some p → ∃ v, vs[i]? = some v ∧ Rep w g v p
  | _, _, .nil, _, _, e => by simp at e
  | _, _, .cons (v := v) a _, 0, _, e => by simp at e; exact ⟨v, rfl, e ▸ a⟩
  | _, _, .cons _ r, i + 1, _, e => by simpa using Reps.get r (i := i) (by simpa using e)
theorem Reps.getV : ∀ {vs : List Value} {ps : List PV}, Reps w g vs ps → ∀ {i : Nat} {v : Value}, vs[i]? = some v → ∃ p, ps[i]? = some p ∧ Rep w g v p
  | _, _, .nil, _, _, e => by simp at e
  | _, _, .cons (p := p) a _, 0, _, e => by simp at e; exact ⟨p, rfl, e ▸ a⟩
  | _, _, .cons _ r, i + 1, _, e => by simpa using Reps.getV r (i := i) (by simpa using e)
theorem Reps.drop {vs : List Value} {ps : List PV} (r : Reps w g vs ps) : ∀ n, Reps w g (vs.drop n) (ps.drop n) := by
  intro n
  induction n generalizing vs ps with
  | zero => simpa using r
  | succ n ih => cases r with
    | nil => exact .nil
    | cons a r => simpa using ih r
theorem Reps.take {vs : List Value} {ps : List PV} (r : Reps w g vs ps) : ∀ n, Reps w g (vs.take n) (ps.take n) := by
  intro n
  induction n generalizing vs ps with
  | zero => exact .nil
  | succ n ih => cases r with
    | nil => exact .nil
    | cons a r => simpa using Reps.cons a (ih r)
theorem RepD.length {es : List DictEntry} {kvs : List (Str × PV)} : RepD w g es kvs → es.length = kvs.length
  | .nil => rfl
  | .cons _ r => by simp [RepD.length r]
end
abbrev PRec := List (Str × PV)
inductive Bind where
  | val (p : PV)
  | lst (xs : List PV)
  | dct (kvs : List (Str × PV))
def Bind.own : Bind → Bool
  | .val _ => false
  | _ => true
structure St where
  vs : List (Option Bind)
  pl : List PRec
structure GS (c : KB) (pl : List PRec) (g : G) (s : Shared) : Prop where
  ok : KBok c
  fz : ∀ a o, g.fz a = some o → s.heap.get? a = some o
  fx : ∀ a o, g.fx a = some o → s.heap.get? a = some o
  dis : ∀ a o, g.fz a = some o → g.fx a = none
  base : ∀ a o, c.B0.get? a = some o → g.fz a = some o
  lenφ : g.φ.length = pl.length
  lendx : g.dx.length = pl.length
  pls : ∀ (i : Nat) (r : PRec), pl[i]? = some r → ∃ a d es n, g.φ[i]? = some a ∧ g.dx[i]? = some d ∧ g.fz a = some (instObj c.C d) ∧ s.heap.get? d = some (dictOf es n) ∧ RepD c.w g es r ∧ (r.map (·.1)).Nodup ∧ es.length ≤ 100
  dxn : g.dx.Nodup
  dxf : ∀ d ∈ g.dx, g.fz d = none ∧ g.fx d = none
  gens : s.gens = #[]
  os : s.os = c.os
def SlotAt (env : Env) (h : Heap) (x : Str) (k : NameKind) (v : Value) : Prop :=
  match k with
  | .local => ∃ m, h.Ns env.locals m ∧ m x = some v
  | .cell => ∃ c, env.cells.lookup x = some c ∧ h.IsCell c (some v)
  | .free => ∃ c, env.cells.lookup x = some c ∧ h.IsCell c (some v)
  | _ => False
def Mut (g : G) (a : Addr) : Prop := g.fz a = none ∧ g.fx a = none ∧ a ∉ g.dx
def BindOk (w : World) (env : Env) (g : G) (h : Heap) (b : Bind) (v : Value) : Prop :=
  match b with
  | .val p => Rep w g v p
  | .lst xs => ∃ a its n, v = .ref a ∧ h.get? a = some (listOf its n) ∧ Reps w g its.toList xs ∧ its.size ≤ sizeLine ∧ Mut g a
  | .dct kvs => ∃ a es n, v = .ref a ∧ h.get? a = some (dictOf es n) ∧ RepD w g es kvs ∧ (kvs.map (·.1)).Nodup ∧ es.length ≤ 1000000 ∧ Mut g a ∧ a ≠ env.locals
structure EnvSc (env : Env) (sc : Scope) : Prop where
  kind : env.scope.kind = .function
  gen : env.scope.isGenerator = false
  glob : env.globals = mainGlobals
  bi : env.builtins = builtinsNs
  loc : ∀ x, sc.names.lookup x = some .local → env.kindOf x = some .local
  cell : ∀ x, sc.names.lookup x = some .cell → env.kindOf x = some .cell
  free : ∀ x, sc.names.lookup x = some .free → env.kindOf x = some .free ∨ env.kindOf x = some .cell
  gi : ∀ x, sc.names.lookup x = some .globalImplicit → env.kindOf x = some .globalImplicit
  dbg : ∀ x k, (x, k) ∈ sc.names → (x == ("__debug__" : Str)) = false ∧ (x == ("__classdict__" : Str)) = false
  nodup : (sc.names.map (·.1)).Nodup
structure FS (c : KB) (sc : Scope) (env : Env) (vs : List (Option Bind)) (g : G) (h : Heap) : Prop where
  ns : ∃ m, h.Ns env.locals m
  nsm : Mut g env.locals
  cell : ∀ x, (x, NameKind.cell) ∈ sc.names → ∃ c v, env.cells.lookup x = some c ∧ h.IsCell c v ∧ Mut g c
  apart : ∀ x y c, (x, NameKind.cell) ∈ sc.names → ((y, NameKind.cell) ∈ sc.names ∨ (y, NameKind.free) ∈ sc.names) → env.cells.lookup x = some c → env.cells.lookup y = some c → x = y
  vars : ∀ (i : Nat) (b : Bind), vs[i]? = some (some b) → ∃ x k v, sc.names[i]? = some (x, k) ∧ SlotAt env h x k v ∧ BindOk c.w env g h b v
  owns : ∀ (i j : Nat) (b b' : Bind) (x y : Str) (k k' : NameKind) (v : Value), i ≠ j → vs[i]? = some (some b) → vs[j]? = some (some b') → b.own = true → b'.own = true →
    sc.names[i]? = some (x, k) → sc.names[j]? = some (y, k') → SlotAt env h x k v → ¬ SlotAt env h y k' v
structure FSim (c : KB) (sc : Scope) (env : Env) (σ : St) (g : G) (s : Shared) : Prop where
  gs : GS c σ.pl g s
  fs : FS c sc env σ.vs g s.heap
theorem lookup_of_get {names : List (Str × NameKind)} (nd : (names.map (·.1)).Nodup) {i : Nat} {x : Str} {k : NameKind} (h : names[i]? = some (x, k)) : names.lookup x = some k := by
  induction names generalizing i with
  | nil => simp at h
  | cons p r ih =>
    obtain ⟨y, ky⟩ := p
    simp only [List.map_cons, List.nodup_cons] at nd
    cases i with
    | zero => simp at h; obtain ⟨rfl, rfl⟩ := h; simp [List.lookup_cons]
    | succ i =>
      have h' : r[i]? = some (x, k) := by simpa using h
      have : x ≠ y := fun e => nd.1 (e ▸ List.mem_map.mpr ⟨_, List.mem_of_getElem? h', rfl⟩)
      have hb : (x == y) = false := by simpa using this
      simp only [List.lookup_cons, hb]
      exact ih nd.2 h'
theorem idx_of_get {names : List (Str × NameKind)} (nd : (names.map (·.1)).Nodup) {i j : Nat} {x : Str} {k k' : NameKind} (h : names[i]? = some (x, k)) (h' : names[j]? = some (x, k')) : i = j := by
  have e1 : (names.map (·.1))[i]? = some x := by simp [h]
  have e2 : (names.map (·.1))[j]? = some x := by simp [h']
  have hi : i < (names.map (·.1)).length := (List.getElem?_eq_some_iff.mp e1).1
  exact (List.getElem?_inj hi nd).mp (e1.trans e2.symm)
theorem Ns.fun_eq {h : Heap} {a : Addr} {m m' : Str → Option Value} (x : h.Ns a m) (y : h.Ns a m') : m = m' := by
  obtain ⟨o, es, ep, e, d, _, f⟩ := x
  obtain ⟨o', es', ep', e', d', _, f'⟩ := y
  rw [e] at e'; cases e'
  rw [d] at d'; cases d'
  funext z; rw [← f z, ← f' z]
theorem IsCell.eq {h : Heap} {c : Addr} {v v' : Option Value} (x : h.IsCell c v) (y : h.IsCell c v') : v = v' := by
  obtain ⟨o, e, d⟩ := x
  obtain ⟨o', e', d'⟩ := y
  rw [e] at e'; cases e'
  rw [d] at d'; cases d'; rfl
theorem SlotAt.eq {env : Env} {h : Heap} {x : Str} {k : NameKind} {v v' : Value} (a : SlotAt env h x k v) (b : SlotAt env h x k v') : v = v' := by
  cases k with
  | «local» =>
    obtain ⟨m, hm, e⟩ := a
    obtain ⟨m', hm', e'⟩ := b
    rw [Ns.fun_eq hm hm'] at e; rw [e] at e'; exact Option.some.inj e'
  | cell =>
    obtain ⟨m, hm, e⟩ := a
    obtain ⟨m', hm', e'⟩ := b
    rw [hm] at hm'; cases hm'
    exact Option.some.inj (IsCell.eq e e')
  | free =>
    obtain ⟨m, hm, e⟩ := a
    obtain ⟨m', hm', e'⟩ := b
    rw [hm] at hm'; cases hm'
    exact Option.some.inj (IsCell.eq e e')
  | _ => exact a.elim
theorem Ns.get_some {h : Heap} {a : Addr} {m : Str → Option Value} (x : h.Ns a m) : ∃ o es ep, h.get? a = some o ∧ o.data = .dict es ep := let ⟨o, es, ep, e, d, _⟩ := x; ⟨o, es, ep, e, d⟩
section
variable {c : KB} {pl : List PRec} {g g' : G} {s s' : Shared} {sc : Scope} {env : Env} {vs : List (Option Bind)} {h' : Heap}
theorem GS.dxget (x : GS c pl g s) {d : Addr} (hd : d ∈ g.dx) : ∃ es n, s.heap.get? d = some (dictOf es n) := by
  obtain ⟨i, hi, rfl⟩ := List.getElem_of_mem hd
  have hi' : i < pl.length := x.lendx ▸ hi
  obtain ⟨a, d, es, n, _, e2, _, e4, _⟩ := x.pls i pl[i] (by simp [hi'])
  have : g.dx[i]? = some g.dx[i] := by simp [hi]
  rw [e2] at this; cases this
  exact ⟨es, n, e4⟩
theorem GS.cell_notin (x : GS c pl g s) {a : Addr} {v : Option Value} (hc : s.heap.IsCell a v) : a ∉ g.dx := fun hd => by
  obtain ⟨es, n, e⟩ := x.dxget hd
  obtain ⟨o, e', d⟩ := hc
  rw [e] at e'; cases e'; cases d
theorem FS.evolve (X : GS c pl g s) (x : FS c sc env vs g s.heap)
    (hφ : ∀ (i : Nat) (a : Addr), g.φ[i]? = some a → g'.φ[i]? = some a) (hz : ∀ a o, g.fz a = some o → g'.fz a = some o)
    (K : ∀ a o, s.heap.get? a = some o → (Mut g a ∨ ∃ v, o.data = .cell v) → a ∉ g.dx → h'.get? a = some o)
    (M : ∀ a o, s.heap.get? a = some o → Mut g a → Mut g' a) : FS c sc env vs g' h' := by
  obtain ⟨m, hm⟩ := x.ns
  have nsK : ∀ {m}, s.heap.Ns env.locals m → h'.Ns env.locals m := fun hn => let ⟨o, es, ep, e, r⟩ := hn; ⟨o, es, ep, K _ _ e (.inl x.nsm) x.nsm.2.2, r⟩
  have cellK : ∀ {a v}, s.heap.IsCell a v → h'.IsCell a v := fun hc => let ⟨o, e, d⟩ := hc; ⟨o, K _ _ e (.inr ⟨_, d⟩) (X.cell_notin hc), d⟩
  have slotK : ∀ {y k v}, SlotAt env s.heap y k v → SlotAt env h' y k v := fun {y k v} hs => by
    cases k with
    | «local» => obtain ⟨m, hm, e⟩ := hs; exact ⟨m, nsK hm, e⟩
    | cell => obtain ⟨m, hm, e⟩ := hs; exact ⟨m, hm, cellK e⟩
    | free => obtain ⟨m, hm, e⟩ := hs; exact ⟨m, hm, cellK e⟩
    | _ => exact hs.elim
  refine ⟨⟨m, nsK hm⟩, ?_, fun y hy => ?_, x.apart, fun i b hb => ?_, ?_⟩
  · obtain ⟨o, es, ep, e, _⟩ := Ns.get_some hm
    exact M _ _ e x.nsm
  · obtain ⟨cc, v, e, hc, hmu⟩ := x.cell y hy
    obtain ⟨o, e', d⟩ := id hc
    exact ⟨cc, v, e, cellK hc, M _ _ e' hmu⟩
  · obtain ⟨y, k, v, e, hs, hb⟩ := x.vars i b hb
    refine ⟨y, k, v, e, slotK hs, ?_⟩
    cases b with
    | val p => exact Rep.mono hφ hz hb
    | lst xs =>
      obtain ⟨a, its, n, e1, e2, r, l, mu⟩ := hb
      exact ⟨a, its, n, e1, K _ _ e2 (.inl mu) mu.2.2, r.mono hφ hz, l, M _ _ e2 mu⟩
    | dct kvs =>
      obtain ⟨a, es, n, e1, e2, r, nd, l, mu, ne⟩ := hb
      exact ⟨a, es, n, e1, K _ _ e2 (.inl mu) mu.2.2, r.mono hφ hz, nd, l, M _ _ e2 mu, ne⟩
  · intro i j b b' y z k k' v hij hi hj ho ho' hni hnj hs hs'
    obtain ⟨y1, k1, v1, e1, hs1, _⟩ := x.vars i b hi
    obtain ⟨z1, k2, v2, e2, hs2, _⟩ := x.vars j b' hj
    rw [hni] at e1; cases e1
    rw [hnj] at e2; cases e2
    have q1 := SlotAt.eq (slotK hs1) hs
    have q2 := SlotAt.eq (slotK hs2) hs'
    subst q1; subst q2
    exact x.owns i j b b' y z k k' _ hij hi hj ho ho' hni hnj hs1 hs2
theorem GS.evolve (x : GS c pl g s) (l : g.le g') (hφ : g'.φ = g.φ) (hdx : g'.dx = g.dx)
    (K : ∀ a o, s.heap.get? a = some o → s'.heap.get? a = some o) (hz : ∀ a o, g'.fz a = some o → s'.heap.get? a = some o) (hdis : ∀ a o, g'.fz a = some o → g.fx a = none) (hd : ∀ a ∈ g.dx, g'.fz a = none)
    (hg : s'.gens = s.gens) (ho : s'.os = s.os) : GS c pl g' s' where
  ok := x.ok
  fz := hz
  fx := fun a o e => K _ _ (x.fx a o (l.fx ▸ e))
  dis := fun a o e => by rw [l.fx]; exact hdis a o e
  base := fun a o e => l.fz _ _ (x.base a o e)
  lenφ := by rw [hφ]; exact x.lenφ
  lendx := by rw [hdx]; exact x.lendx
  pls := fun i r e => by
    obtain ⟨a, d, es, n, e1, e2, e3, e4, e5, e6⟩ := x.pls i r e
    exact ⟨a, d, es, n, l.φ _ _ e1, l.dx _ _ e2, l.fz _ _ e3, K _ _ e4, e5.le l, e6⟩
  dxn := by rw [hdx]; exact x.dxn
  dxf := fun d hdm => by rw [hdx] at hdm; exact ⟨hd d hdm, by rw [l.fx]; exact (x.dxf d hdm).2⟩
  gens := hg.trans x.gens
  os := ho.trans x.os
theorem FSim.ext {σ : St} (x : FSim c sc env σ g s) (K : HExt s.heap s'.heap) (hg : s'.gens = s.gens) (ho : s'.os = s.os) : FSim c sc env σ g s' :=
  ⟨x.gs.evolve (.refl g) rfl rfl K (fun a o e => K _ _ (x.gs.fz a o e)) (fun a o e => x.gs.dis a o e) (fun a h => (x.gs.dxf a h).1) hg ho,
   FS.evolve x.gs x.fs (fun _ _ e => e) (fun _ _ e => e) (fun a o e _ _ => K _ _ e) (fun _ _ _ m => m)⟩
def G.addFz (g : G) (a : Addr) (o : Obj) : G := { g with fz := fun b => if b = a then some o else g.fz b }
theorem G.addFz_self (g : G) (a : Addr) (o : Obj) : (g.addFz a o).fz a = some o := by simp [addFz]
theorem G.addFz_le {g : G} {a : Addr} {o : Obj} (h : g.fz a = none) : g.le (g.addFz a o) :=
  ⟨fun _ _ e => e, fun _ _ e => e, fun b o' e => by
    by_cases q : b = a
    · subst q; rw [h] at e; cases e
    · simpa [addFz, q] using e, rfl⟩
theorem GS.notMods (x : GS c pl g s) {a : Addr} (h : s.heap.get? a = none) : (a == sysModules) = false := by
  cases q : a == sysModules with
  | false => rfl
  | true =>
    have : a = sysModules := by simpa using q
    obtain ⟨o, e⟩ := x.ok.sm
    rw [this, x.fz _ _ (x.base _ _ e)] at h; cases h
theorem GS.notModsM (x : GS c pl g s) {a : Addr} (m : Mut g a) : (a == sysModules) = false := by
  cases q : a == sysModules with
  | false => rfl
  | true =>
    have : a = sysModules := by simpa using q
    obtain ⟨o, e⟩ := x.ok.sm
    have := m.1
    rw [‹a = sysModules›, x.base _ _ e] at this; cases this
theorem GS.fresh (x : GS c pl g s) {a : Addr} (h : s.heap.get? a = none) : Mut g a := by
  refine ⟨?_, ?_, fun hd => ?_⟩
  · cases e : g.fz a with
    | none => rfl
    | some o => rw [x.fz _ _ e] at h; cases h
  · cases e : g.fx a with
    | none => rfl
    | some o => rw [x.fx _ _ e] at h; cases h
  · obtain ⟨es, n, e⟩ := x.dxget hd
    rw [e] at h; cases h
theorem FSim.freeze {σ : St} (x : FSim c sc env σ g s) {a : Addr} {o : Obj} (hn : s.heap.get? a = none) (K : HExt s.heap s'.heap) (ho : s'.heap.get? a = some o)
    (hg : s'.gens = s.gens) (hos : s'.os = s.os) : FSim c sc env σ (g.addFz a o) s' ∧ g.le (g.addFz a o) := by
  have mu := x.gs.fresh hn
  have l := G.addFz_le (o := o) mu.1
  refine ⟨⟨x.gs.evolve l rfl rfl K (fun b o' e => ?_) (fun b o' e => ?_) (fun b hb => ?_) hg hos,
    FS.evolve x.gs x.fs (fun _ _ e => e) l.fz (fun b o' e _ _ => K _ _ e) (fun b o' e m => ?_)⟩, l⟩
  · by_cases q : b = a
    · subst q; rw [G.addFz_self] at e; cases e; exact ho
    · exact K _ _ (x.gs.fz _ _ (by simpa [G.addFz, q] using e))
  · by_cases q : b = a
    · subst q; exact mu.2.1
    · exact x.gs.dis _ _ (by simpa [G.addFz, q] using e)
  · have q : b ≠ a := fun q => mu.2.2 (q ▸ hb)
    simpa [G.addFz, q] using (x.gs.dxf b hb).1
  · have q : b ≠ a := fun q => by subst q; rw [hn] at e; cases e
    exact ⟨by simpa [G.addFz, q] using m.1, m.2.1, m.2.2⟩
open Classical in
noncomputable def G.maxfx (g : G) (h : Heap) : G := { g with fx := fun a => if g.fz a = none ∧ a ∉ g.dx then h.get? a else none }
theorem GS.maxfx (x : GS c pl g s) : GS c pl (g.maxfx s.heap) s where
  ok := x.ok
  fz := x.fz
  fx := fun a o e => by
    simp only [G.maxfx] at e
    split at e
    · exact e
    · cases e
  dis := fun a o e => by
    have e' : g.fz a = some o := e
    simp [G.maxfx, e']
  base := x.base
  lenφ := x.lenφ
  lendx := x.lendx
  pls := fun i r e => by
    obtain ⟨a, d, es, n, e1, e2, e3, e4, e5, e6⟩ := x.pls i r e
    exact ⟨a, d, es, n, e1, e2, e3, e4, RepD.mono (g := g) (g' := g.maxfx s.heap) (fun _ _ q => q) (fun _ _ q => q) e5, e6⟩
  dxn := x.dxn
  dxf := fun d hd => ⟨(x.dxf d hd).1, by have hd' : d ∈ g.dx := hd; simp [G.maxfx, hd']⟩
  gens := x.gens
  os := x.os
theorem GS.fx_le (x : GS c pl g s) {a : Addr} {o : Obj} (e : g.fx a = some o) : (g.maxfx s.heap).fx a = some o := by
  have h1 : g.fz a = none := by
    cases q : g.fz a with
    | none => rfl
    | some o' => rw [x.dis _ _ q] at e; cases e
  have h2 : a ∉ g.dx := fun hd => by rw [(x.dxf a hd).2] at e; cases e
  simp [G.maxfx, h1, h2, x.fx _ _ e]
theorem GS.unmax {pl' : List PRec} (x : GS c pl g s) (l : (g.maxfx s.heap).le g') (y : GS c pl' g' s') : GS c pl' { g' with fx := g.fx } s' where
  ok := x.ok
  fz := y.fz
  fx := fun a o e => y.fx a o (by rw [l.fx]; exact x.fx_le e)
  dis := fun a o e => by
    have := y.dis a o e
    rw [l.fx] at this
    cases q : g.fx a with
    | none => rfl
    | some o' => rw [x.fx_le q] at this; cases this
  base := y.base
  lenφ := y.lenφ
  lendx := y.lendx
  pls := fun i r e => by
    obtain ⟨a, d, es, n, e1, e2, e3, e4, e5, e6⟩ := y.pls i r e
    exact ⟨a, d, es, n, e1, e2, e3, e4, RepD.mono (g := g') (g' := { g' with fx := g.fx }) (fun _ _ q => q) (fun _ _ q => q) e5, e6⟩
  dxn := y.dxn
  dxf := fun d hd => ⟨(y.dxf d hd).1, by
    have := (y.dxf d hd).2
    rw [l.fx] at this
    cases q : g.fx d with
    | none => rfl
    | some o' => rw [x.fx_le q] at this; cases this⟩
  gens := y.gens
  os := y.os
theorem unmax_le (l : (g.maxfx s.heap).le g') : g.le { g' with fx := g.fx } := ⟨l.φ, l.dx, l.fz, rfl⟩
theorem FSim.unmax {σ : St} {pl' : List PRec} (x : FSim c sc env σ g s) (l : (g.maxfx s.heap).le g') (y : GS c pl' g' s') :
    FSim c sc env { σ with pl := pl' } { g' with fx := g.fx } s' :=
  ⟨x.gs.unmax l y, FS.evolve x.gs x.fs l.φ l.fz (fun a o e _ hd => by
      cases q : g.fz a with
      | none =>
        refine y.fx a o ?_
        rw [l.fx]; simp [G.maxfx, q, hd, e]
      | some o' =>
        have := x.gs.fz _ _ q
        rw [e] at this; cases this
        exact y.fz _ _ (l.fz _ _ q))
    (fun a o e m => by
      have q : g'.fx a = some o := by rw [l.fx]; simp [G.maxfx, m.1, m.2.2, e]
      refine ⟨?_, m.2.1, fun hd => ?_⟩
      · show g'.fz a = none
        cases r : g'.fz a with
        | none => rfl
        | some o' => rw [y.dis _ _ r] at q; cases q
      · have hd' : a ∈ g'.dx := hd
        rw [(y.dxf a hd').2] at q; cases q)⟩
end
end RM
end
noncomputable section
namespace RM
structure Lim (k : Nat) (A : Around) : Prop where
  hd : A.handled = none
  dep : A.depth ≤ 310 + 4 * k
  un : A.units ≤ 20 + 30 * k
  k : k ≤ 150
  fr : ∃ l, A.frames = some l
inductive Fl where
  | next | brk | cont | ret (p : PV)
def FlowOk (w : World) (g : G) : Fl → Flow → Prop
  | .next, .next => True
  | .brk, .brk => True
  | .cont, .cont => True
  | .ret p, .ret v => Rep w g v p
  | _, _ => False
def St.set (σ : St) (i : Nat) (b : Bind) : St := { σ with vs := σ.vs.set i (some b) }
def vloc (sc : Scope) (x : Str) : Option (Nat × NameKind) := go 0 sc.names
where go (n : Nat) : List (Str × NameKind) → Option (Nat × NameKind)
  | [] => none
  | (y, k) :: r => if y == x then some (n, k) else go (n + 1) r
theorem vloc_go {x : Str} : ∀ {l : List (Str × NameKind)} {n i : Nat} {k : NameKind}, vloc.go x n l = some (i, k) → ∃ j, i = n + j ∧ l[j]? = some (x, k)
  | [], _, _, _, h => by cases h
  | (y, ky) :: r, n, i, k, h => by
    unfold vloc.go at h
    split at h
    · rename_i e; cases h; exact ⟨0, rfl, by simpa using e⟩
    · obtain ⟨j, rfl, e⟩ := vloc_go h
      exact ⟨j + 1, by omega, by simpa using e⟩
theorem vloc_get {sc : Scope} {x : Str} {i : Nat} {k : NameKind} (h : vloc sc x = some (i, k)) : sc.names[i]? = some (x, k) := by
  obtain ⟨j, rfl, e⟩ := vloc_go h
  simpa using e
structure Stay (env : Env) (h h' : Heap) : Prop where
  ns : ∀ m, h.Ns env.locals m → h'.Ns env.locals m
  cell : ∀ x a v, env.cells.lookup x = some a → h.IsCell a v → h'.IsCell a v
theorem Stay.refl (env : Env) (h : Heap) : Stay env h h := ⟨fun _ x => x, fun _ _ _ _ x => x⟩
theorem Stay.trans {env : Env} {a b d : Heap} (x : Stay env a b) (y : Stay env b d) : Stay env a d := ⟨fun m h => y.ns m (x.ns m h), fun n e v h q => y.cell n e v h (x.cell n e v h q)⟩
theorem Stay.ext {env : Env} {h h' : Heap} (K : HExt h h') : Stay env h h' := ⟨fun m ⟨o, es, ep, e, r⟩ => ⟨o, es, ep, K _ _ e, r⟩, fun _ _ v _ ⟨o, e, d⟩ => ⟨o, K _ _ e, d⟩⟩
theorem Stay.slot {env : Env} {h h' : Heap} {x : Str} {k : NameKind} {v : Value} (y : Stay env h h') (hs : SlotAt env h x k v) : SlotAt env h' x k v := by
  cases k with
  | «local» => obtain ⟨m, hm, e⟩ := hs; exact ⟨m, y.ns m hm, e⟩
  | cell => obtain ⟨m, hm, e⟩ := hs; exact ⟨m, hm, y.cell _ _ _ hm e⟩
  | free => obtain ⟨m, hm, e⟩ := hs; exact ⟨m, hm, y.cell _ _ _ hm e⟩
  | _ => exact hs.elim
structure Next (c : KB) (sc : Scope) (env : Env) (σ' : St) (g : G) (s : Shared) (g' : G) (s' : Shared) : Prop where
  le : g.le g'
  sim : FSim c sc env σ' g' s'
  stay : Stay env s.heap s'.heap
theorem Next.trans {c : KB} {sc : Scope} {env : Env} {σ₁ σ₂ : St} {g g₁ g₂ : G} {s s₁ s₂ : Shared} (x : Next c sc env σ₁ g s g₁ s₁) (y : Next c sc env σ₂ g₁ s₁ g₂ s₂) : Next c sc env σ₂ g s g₂ s₂ :=
  ⟨x.le.trans y.le, y.sim, x.stay.trans y.stay⟩
theorem Next.refl {c : KB} {sc : Scope} {env : Env} {σ : St} {g : G} {s : Shared} (F : FSim c sc env σ g s) : Next c sc env σ g s g s := ⟨.refl g, F, .refl ..⟩
section
variable (c : KB) (k : Nat) (sc : Scope)
def TrE (σ : St) (e : Expr) (p : PV) (σ' : St) : Prop :=
  ∀ (A : Around) (env : Env) (g : G) (s : Shared) (Q : Value → Shared → Prop) (E : Value → Shared → Prop), Lim k A → EnvSc env sc → FSim c sc env σ g s →
    (∀ v g' s', Next c sc env σ' g s g' s' → Rep c.w g' v p → Q v s') → wpAny (model c.prog c.w) A (eval e env) Q E s
def NewAt (w : World) (g : G) (h : Heap) (a : Addr) : Bind → Prop
  | .lst xs => ∃ its n, h.get? a = some (listOf its n) ∧ Reps w g its.toList xs ∧ its.size ≤ sizeLine
  | .dct kvs => ∃ es n, h.get? a = some (dictOf es n) ∧ RepD w g es kvs ∧ (kvs.map (·.1)).Nodup ∧ es.length ≤ 1000000
  | .val _ => False
def TrN (σ : St) (e : Expr) (b : Bind) (σ' : St) : Prop :=
  ∀ (A : Around) (env : Env) (g : G) (s : Shared) (Q : Value → Shared → Prop) (E : Value → Shared → Prop), Lim k A → EnvSc env sc → FSim c sc env σ g s →
    (∀ a g' s₁ s', Next c sc env σ' g s g' s₁ → HExt s₁.heap s'.heap → s₁.heap.get? a = none → s'.gens = s₁.gens → s'.os = s₁.os → NewAt c.w g' s'.heap a b → Q (.ref a) s') →
    wpAny (model c.prog c.w) A (eval e env) Q E s
def TrT (σ : St) (e : Expr) (b : Bool) (σ' : St) : Prop :=
  ∀ (A : Around) (env : Env) (g : G) (s : Shared) (Q : Bool → Shared → Prop) (E : Value → Shared → Prop), Lim k A → EnvSc env sc → FSim c sc env σ g s →
    (∀ g' s', Next c sc env σ' g s g' s' → Q b s') → wpAny (model c.prog c.w) A (isTrue e env (eval e env)) Q E s
def TrA (σ : St) (t : Expr) (p : PV) (σ' : St) : Prop :=
  ∀ (A : Around) (env : Env) (g : G) (s : Shared) (v : Value) (Q : Unit → Shared → Prop) (E : Value → Shared → Prop), Lim k A → EnvSc env sc → FSim c sc env σ g s → Rep c.w g v p →
    (∀ g' s', g.le g' → FSim c sc env σ' g' s' → Q () s') → wpAny (model c.prog c.w) A (assign t env v) Q E s
def TrS (σ : St) (t : Stmt) (fl : Fl) (σ' : St) : Prop :=
  ∀ (A : Around) (env : Env) (g : G) (s : Shared) (Q : Flow → Shared → Prop) (E : Value → Shared → Prop), Lim k A → EnvSc env sc → FSim c sc env σ g s →
    (∀ f g' s', g.le g' → FSim c sc env σ' g' s' → FlowOk c.w g' fl f → Q f s') → wpAny (model c.prog c.w) A (exec t env) Q E s
def TrSs (σ : St) (ts : List Stmt) (fl : Fl) (σ' : St) : Prop :=
  ∀ (A : Around) (env : Env) (g : G) (s : Shared) (Q : Flow → Shared → Prop) (E : Value → Shared → Prop), Lim k A → EnvSc env sc → FSim c sc env σ g s →
    (∀ f g' s', g.le g' → FSim c sc env σ' g' s' → FlowOk c.w g' fl f → Q f s') → wpAny (model c.prog c.w) A (execs ts env) Q E s
def TrArgs (σ : St) (es : List Expr) (ps : List PV) (σ' : St) : Prop :=
  ∀ (pos : Pos) (A : Around) (env : Env) (g : G) (s : Shared) (Q : List Value → Shared → Prop) (E : Value → Shared → Prop), Lim k A → EnvSc env sc → FSim c sc env σ g s →
    (∀ vs g' s', Next c sc env σ' g s g' s' → Reps c.w g' vs ps → Q vs s') → wpAny (model c.prog c.w) A (spliced (backTo pos (starEach es env))) Q E s
def FnSpec (a : Addr) (ps : List PV) (pl : List PRec) (res : PV) (pl' : List PRec) : Prop :=
  ∀ (A : Around) (g : G) (s : Shared) (vs : List Value) (Q : Value → Shared → Prop) (E : Value → Shared → Prop), Lim k A → GS c pl g s → Reps c.w g vs ps →
    (∀ v g' s', g.le g' → GS c pl' g' s' → Rep c.w g' v res → Q v s') → wpAny (model c.prog c.w) A (call (.ref a) vs) Q E s
end
section
variable {c : KB} {k : Nat} {sc : Scope} {σ σ' σ₁ σ₂ σ₃ : St}
theorem GS.heap0 {pl : List PRec} {g : G} {s : Shared} (x : GS c pl g s) : HExt c.B0 s.heap := fun a o e => x.fz _ _ (x.base _ _ e)
theorem TrN.toE {e : Expr} {xs : List PV} (h : TrN c k sc σ e (.lst xs) σ') : TrE c k sc σ e (.list xs) σ' := by
  intro A env g s Q E L V F hQ
  refine h A env g s Q E L V F fun a g' s₁ s' N₁ K hn hg ho N => ?_
  obtain ⟨its, n, e1, r, sz⟩ := N
  obtain ⟨F'', l''⟩ := N₁.sim.freeze hn K e1 hg ho
  exact hQ _ _ _ ⟨N₁.le.trans l'', F'', N₁.stay.trans (.ext K)⟩ (.list (G.addFz_self ..) (r.le l'') sz)
theorem TrN.toD {e : Expr} {xs : List (Str × PV)} (h : TrN c k sc σ e (.dct xs) σ') : TrE c k sc σ e (.dict xs) σ' := by
  intro A env g s Q E L V F hQ
  refine h A env g s Q E L V F fun a g' s₁ s' N₁ K hn hg ho N => ?_
  obtain ⟨es, n, e1, r, nd, sz⟩ := N
  obtain ⟨F'', l''⟩ := N₁.sim.freeze hn K e1 hg ho
  exact hQ _ _ _ ⟨N₁.le.trans l'', F'', N₁.stay.trans (.ext K)⟩ (.dict (N₁.sim.gs.notMods hn) (G.addFz_self ..) (r.le l'') nd sz)
theorem FSim.toks {env : Env} {g : G} {s : Shared} (F : FSim c sc env σ g s) (t : Nat) : FSim c sc env σ g { s with toks := t } :=
  F.ext (fun _ _ e => e) rfl rfl
theorem load_var {A : Around} {env : Env} {g : G} {s : Shared} {Q : Value → Shared → Prop} {E : Value → Shared → Prop} {i : Nat} {x : Str} {kd : NameKind} {b : Bind} {pos : Pos}
    (V : EnvSc env sc) (F : FSim c sc env σ g s) (hi : vloc sc x = some (i, kd)) (hv : σ.vs[i]? = some (some b))
    (h : ∀ v, SlotAt env s.heap x kd v → BindOk c.w env g s.heap b v → Q v s) : wpAny (model c.prog c.w) A (eval (.Name x pos) env) Q E s := by
  have hn := vloc_get hi
  obtain ⟨y, k', v, e, hs, hb⟩ := F.fs.vars i b hv
  rw [hn] at e; cases e
  have hl := lookup_of_get V.nodup hn
  have hd := V.dbg x kd (List.mem_of_getElem? hn)
  refine wpAny_Name ?_ hd.1
  cases kd with
  | «local» => obtain ⟨m, hm, e⟩ := id hs; exact wpAny_loadName_local V.kind (V.loc _ hl) hm e (h v hs hb)
  | cell => obtain ⟨cc, hm, e⟩ := id hs; exact wpAny_loadName_cell V.kind (V.cell _ hl) hm e (h v hs hb)
  | free =>
    obtain ⟨cc, hm, e⟩ := id hs
    rcases V.free _ hl with q | q
    · exact wpAny_loadName_free V.kind q hm e (h v hs hb) hd.2
    · exact wpAny_loadName_cell V.kind q hm e (h v hs hb)
  | _ => exact hs.elim
theorem tr_name {x : Str} {pos : Pos} {i : Nat} {kd : NameKind} {p : PV} (hi : vloc sc x = some (i, kd)) (hv : σ.vs[i]? = some (some (.val p))) : TrE c k sc σ (.Name x pos) p σ := by
  intro A env g s Q E L V F hQ
  exact load_var V F hi hv fun v _ hb => hQ v g s (.refl F) hb
theorem tr_int {i : Int} {kk : Nat} {pos : Pos} : TrE c k sc σ (.Constant (.int i) kk pos) (.int i) σ := by
  intro A env g s Q E L V F hQ
  exact wpAny_Constant_int (hQ _ g _ ⟨.refl g, F.toks _, .refl ..⟩ (.int _ _))
theorem tr_str {x : Str} {kk : Nat} {pos : Pos} : TrE c k sc σ (.Constant (.str x) kk pos) (.str x) σ := by
  intro A env g s Q E L V F hQ
  exact Calls.Constant_str (hQ _ g _ ⟨.refl g, F.toks _, .refl ..⟩ (.str _ _))
theorem tr_bool {b : Bool} {kk : Nat} {pos : Pos} : TrE c k sc σ (.Constant (.bool b) kk pos) (.bool b) σ := by
  intro A env g s Q E L V F hQ
  exact wpAny_Constant_bool (hQ _ g _ (.refl F) (.bool _))
theorem tr_none {kk : Nat} {pos : Pos} : TrE c k sc σ (.Constant .none kk pos) .none σ := by
  intro A env g s Q E L V F hQ
  exact wpAny_Constant_none (hQ _ g _ (.refl F) .none)
theorem trs_nil : TrSs c k sc σ [] .next σ := by
  intro A env g s Q E L V F hQ
  exact wpAny_execs_nil (hQ _ g s (.refl g) F trivial)
theorem trs_cons {t : Stmt} {r : List Stmt} {fl : Fl} (h : TrS c k sc σ t .next σ₁) (h' : TrSs c k sc σ₁ r fl σ₂) : TrSs c k sc σ (t :: r) fl σ₂ := by
  intro A env g s Q E L V F hQ
  refine wpAny_execs_cons (h A env g s _ E L V F fun f g' s' l F' hf => ?_)
  cases f with
  | next => exact h' A env g' s' _ E L V F' fun f g'' s'' l' F'' hf' => hQ f g'' s'' (l.trans l') F'' hf'
  | _ => exact hf.elim
theorem trs_stop {t : Stmt} {r : List Stmt} {fl : Fl} (h : TrS c k sc σ t fl σ₁) (hn : fl ≠ .next) : TrSs c k sc σ (t :: r) fl σ₁ := by
  intro A env g s Q E L V F hQ
  refine wpAny_execs_cons (h A env g s _ E L V F fun f g' s' l F' hf => ?_)
  cases f with
  | next => cases fl <;> first | exact absurd rfl hn | exact hf.elim
  | _ => exact hQ _ g' s' l F' hf
theorem tr_if {test : Expr} {body orelse : List Stmt} {pos : Pos} {b : Bool} {fl : Fl} (h : TrT c k sc σ test b σ₁) (ht : b = true → TrSs c k sc σ₁ body fl σ₂) (hf : b = false → TrSs c k sc σ₁ orelse fl σ₂) :
    TrS c k sc σ (.If test body orelse pos) fl σ₂ := by
  intro A env g s Q E L V F hQ
  refine wpAny_If (h A env g s _ E L V F fun g' s' N => ?_)
  cases b with
  | true => exact ht rfl A env g' s' _ E L V N.sim fun f g'' s'' l' F'' hf' => hQ f g'' s'' (N.le.trans l') F'' hf'
  | false => exact hf rfl A env g' s' _ E L V N.sim fun f g'' s'' l' F'' hf' => hQ f g'' s'' (N.le.trans l') F'' hf'
theorem tr_return {e : Expr} {pos : Pos} {p : PV} (h : TrE c k sc σ e p σ₁) : TrS c k sc σ (.Return (some e) pos) (.ret p) σ₁ := by
  intro A env g s Q E L V F hQ
  exact wpAny_Return_some (h A env g s _ E L V F fun v g' s' N r => hQ _ g' s' N.le N.sim r)
theorem tr_break {pos : Pos} : TrS c k sc σ (.Break pos) .brk σ := by
  intro A env g s Q E L V F hQ
  exact wpAny_Break (hQ _ g s (.refl g) F trivial)
theorem tr_expr {e : Expr} {pos : Pos} {p : PV} (h : TrE c k sc σ e p σ₁) (hs : ∀ env : Env, env.scope.kind = .function → interactive env = false ∧ swapsWith e none pos.line env = pure false) : TrS c k sc σ (.Expr e pos) .next σ₁ := by
  intro A env g s Q E L V F hQ
  obtain ⟨h1, h2⟩ := hs env V.kind
  show wpAny _ _ (do standAt pos; if interactive env then printExpr (eval e env) else if ← swapsWith e none pos.line env then do evalThenUse e env fun _ => point; pure .next else do dropValue e pos (← eval e env)) _ _ _
  refine wpAny_bind (wpAny_standAt ?_)
  rw [h1, h2]
  refine wpAny_bind (wpAny_pure ?_)
  refine wpAny_bind (h A env g s _ E L V F fun v g' s' N r => ?_)
  exact wpAny_dropValue (hQ _ g' s' N.le N.sim trivial)
end
end RM
end
noncomputable section
namespace RM
section
variable {c : KB} {k : Nat} {sc : Scope} {σ σ' σ₁ σ₂ σ₃ : St} {pl : List PRec} {g g' : G} {s s' : Shared} {env : Env} {vs : List (Option Bind)}
theorem GS.touch (x : GS c pl g s) {a : Addr} (mu : Mut g a) (K : Heap.ExtBut a s.heap s'.heap) (hg : s'.gens = s.gens) (ho : s'.os = s.os) : GS c pl g s' where
  ok := x.ok
  fz := fun b o e => K b o (fun q => by subst q; rw [mu.1] at e; cases e) (x.fz _ _ e)
  fx := fun b o e => K b o (fun q => by subst q; rw [mu.2.1] at e; cases e) (x.fx _ _ e)
  dis := x.dis
  base := x.base
  lenφ := x.lenφ
  lendx := x.lendx
  pls := fun i r e => by
    obtain ⟨b, d, es, n, e1, e2, e3, e4, e5, e6⟩ := x.pls i r e
    exact ⟨b, d, es, n, e1, e2, e3, K d _ (fun q => mu.2.2 (q ▸ List.mem_of_getElem? e2)) e4, e5, e6⟩
  dxn := x.dxn
  dxf := x.dxf
  gens := hg.trans x.gens
  os := ho.trans x.os
def NotOwned (sc : Scope) (env : Env) (vs : List (Option Bind)) (h : Heap) (i : Nat) (v : Value) : Prop :=
  ∀ (j : Nat) (b' : Bind) (y : Str) (k' : NameKind), j ≠ i → vs[j]? = some (some b') → b'.own = true → sc.names[j]? = some (y, k') → ¬ SlotAt env h y k' v
theorem get_set_ne {i j : Nat} {b : Option Bind} (h : j ≠ i) : (vs.set i b)[j]? = vs[j]? := by
  rw [List.getElem?_set_ne (Ne.symm h)]
theorem get_set_cases {i j : Nat} {b b' : Bind} (h : (vs.set i (some b))[j]? = some (some b')) : (j = i ∧ b' = b ∧ i < vs.length) ∨ (j ≠ i ∧ vs[j]? = some (some b')) := by
  by_cases q : j = i
  · subst q
    have hlt : j < vs.length := by
      have := (List.getElem?_eq_some_iff.mp h).1
      simpa using this
    rw [List.getElem?_set_self hlt] at h
    exact .inl ⟨rfl, by cases h; rfl, hlt⟩
  · rw [get_set_ne q] at h
    exact .inr ⟨q, h⟩
theorem Ns.not_list {h : Heap} {a : Addr} {m : Str → Option Value} {its : Array Value} {n : Nat} (x : h.Ns a m) (e : h.get? a = some (listOf its n)) : False := by
  obtain ⟨o, es, ep, e', d⟩ := Ns.get_some x
  rw [e] at e'; cases e'; cases d
theorem Ns.not_cell {h : Heap} {a : Addr} {m : Str → Option Value} {v : Option Value} (x : h.Ns a m) (e : h.IsCell a v) : False := by
  obtain ⟨o, es, ep, e', d⟩ := Ns.get_some x
  obtain ⟨o', e1, d1⟩ := e
  rw [e1] at e'; cases e'; rw [d1] at d; cases d
theorem FS.store (X : GS c pl g s) (x : FS c sc env vs g s.heap) (nd : (sc.names.map (·.1)).Nodup) {i : Nat} {y : Str} {kd : NameKind} {b : Bind} {v : Value} {a : Addr} {h' : Heap}
    (hn : sc.names[i]? = some (y, kd))
    (hb : BindOk c.w env g s.heap b v) (ho : b.own = true → NotOwned sc env vs s.heap i v)
    (hs : Heap.SameBut a s.heap h')
    (hwh : (kd = .local ∧ a = env.locals ∧ ∃ m, s.heap.Ns env.locals m ∧ h'.Ns env.locals (fun z => if z = y then some v else m z)) ∨
      (kd = .cell ∧ env.cells.lookup y = some a ∧ h'.IsCell a (some v) ∧ (∃ v₀, s.heap.IsCell a v₀) ∧ Mut g a)) : FS c sc env (vs.set i (some b)) g h' := by
  obtain ⟨m0, hm0⟩ := x.ns
  have mua : Mut g a := by
    rcases hwh with ⟨_, rfl, _⟩ | ⟨_, _, _, _, mu⟩
    · exact x.nsm
    · exact mu
  have lstne : ∀ {b : Addr} {its n}, s.heap.get? b = some (listOf its n) → b ≠ a := fun {b its n} e q => by
    subst q
    rcases hwh with ⟨_, rfl, _⟩ | ⟨_, _, _, ⟨v₀, o, e1, d1⟩, _⟩
    · exact Ns.not_list hm0 e
    · rw [e] at e1; cases e1; cases d1
  have dctne : ∀ {b : Addr} {es n}, s.heap.get? b = some (dictOf es n) → b ≠ env.locals → b ≠ a := fun {b es n} e hne q => by
    subst q
    rcases hwh with ⟨_, rfl, _⟩ | ⟨_, _, _, ⟨v₀, o, e1, d1⟩, _⟩
    · exact hne rfl
    · rw [e] at e1; cases e1; cases d1
  have bindK : ∀ {b' : Bind} {v' : Value}, BindOk c.w env g s.heap b' v' → BindOk c.w env g h' b' v' := fun {b' v'} h => by
    cases b' with
    | val p => exact h
    | lst xs =>
      obtain ⟨d, its, n, e1, e2, r⟩ := h
      exact ⟨d, its, n, e1, (hs.2 d (lstne e2)).trans e2, r⟩
    | dct kvs =>
      obtain ⟨d, es, n, e1, e2, r, ndk, l, mu, ne⟩ := h
      exact ⟨d, es, n, e1, (hs.2 d (dctne e2 ne)).trans e2, r, ndk, l, mu, ne⟩
  have slotN : SlotAt env h' y kd v := by
    rcases hwh with ⟨rfl, rfl, m, hm, hm'⟩ | ⟨rfl, hc, hc', _⟩
    · exact ⟨_, hm', by simp⟩
    · exact ⟨a, hc, hc'⟩
  have slotO : ∀ {z : Str} {kz : NameKind} {j : Nat} {v' : Value}, j ≠ i → sc.names[j]? = some (z, kz) → (SlotAt env s.heap z kz v' ↔ SlotAt env h' z kz v') := fun {z kz j v'} hj hz => by
    have hzy : z ≠ y := fun q => hj (idx_of_get nd hz (q ▸ hn))
    have cellD : ∀ {d : Addr} {w : Option Value}, (kz = .cell ∨ kz = .free) → env.cells.lookup z = some d → s.heap.IsCell d w → d ≠ a := fun {d w} hkz hd hcd q => by
      subst q
      rcases hwh with ⟨_, rfl, _⟩ | ⟨rfl, hc, _⟩
      · exact Ns.not_cell hm0 hcd
      · have m1 := List.mem_of_getElem? hn
        have m2 := List.mem_of_getElem? hz
        rcases hkz with rfl | rfl
        · exact hzy (x.apart y z d m1 (.inl m2) hc hd).symm
        · exact hzy (x.apart y z d m1 (.inr m2) hc hd).symm
    have cellEq : ∀ {d : Addr} {w : Option Value}, (kz = .cell ∨ kz = .free) → env.cells.lookup z = some d → (s.heap.IsCell d w ↔ h'.IsCell d w) := fun {d w} hkz hd => by
      by_cases q : d = a
      · subst q
        constructor
        · intro hc; exact absurd rfl (cellD hkz hd hc)
        · intro hc
          exfalso
          rcases hwh with ⟨_, rfl, m, hm, hm'⟩ | ⟨rfl, hcy, _, ⟨v₀, hv₀⟩, _⟩
          · exact Ns.not_cell hm' hc
          · exact absurd rfl (cellD hkz hd hv₀)
      · constructor
        · rintro ⟨o, e, d'⟩; exact ⟨o, (hs.2 d q).trans e, d'⟩
        · rintro ⟨o, e, d'⟩; exact ⟨o, (hs.2 d q).symm.trans e, d'⟩
    cases kz with
    | «local» =>
      rcases hwh with ⟨rfl, rfl, m, hm, hm'⟩ | ⟨rfl, hc, hc', ⟨v₀, hv₀⟩, _⟩
      · constructor
        · rintro ⟨m1, h1, e1⟩
          rw [Ns.fun_eq h1 hm] at e1
          exact ⟨_, hm', by simp [hzy, e1]⟩
        · rintro ⟨m1, h1, e1⟩
          rw [Ns.fun_eq h1 hm'] at e1
          simp only [hzy, if_false] at e1
          exact ⟨m, hm, e1⟩
      · have hne : env.locals ≠ a := fun q => by rw [← q] at hv₀; exact Ns.not_cell hm0 hv₀
        constructor
        · rintro ⟨m1, ⟨o, es, ep, e, r⟩, e1⟩; exact ⟨m1, ⟨o, es, ep, (hs.2 _ hne).trans e, r⟩, e1⟩
        · rintro ⟨m1, ⟨o, es, ep, e, r⟩, e1⟩; exact ⟨m1, ⟨o, es, ep, (hs.2 _ hne).symm.trans e, r⟩, e1⟩
    | cell =>
      constructor
      · rintro ⟨d, hd, hc⟩; exact ⟨d, hd, (cellEq (.inl rfl) hd).mp hc⟩
      · rintro ⟨d, hd, hc⟩; exact ⟨d, hd, (cellEq (.inl rfl) hd).mpr hc⟩
    | free =>
      constructor
      · rintro ⟨d, hd, hc⟩; exact ⟨d, hd, (cellEq (.inr rfl) hd).mp hc⟩
      · rintro ⟨d, hd, hc⟩; exact ⟨d, hd, (cellEq (.inr rfl) hd).mpr hc⟩
    | globalExplicit => exact Iff.rfl
    | globalImplicit => exact Iff.rfl
  refine ⟨?_, x.nsm, fun z hz => ?_, x.apart, fun j b' hj => ?_, ?_⟩
  · rcases hwh with ⟨_, rfl, m, hm, hm'⟩ | ⟨_, hc, hc', ⟨v₀, hv₀⟩, _⟩
    · exact ⟨_, hm'⟩
    · have hne : env.locals ≠ a := fun q => by rw [← q] at hv₀; exact Ns.not_cell hm0 hv₀
      obtain ⟨o, es, ep, e, r⟩ := hm0
      exact ⟨m0, o, es, ep, (hs.2 _ hne).trans e, r⟩
  · obtain ⟨d, w, hd, hcd, mud⟩ := x.cell z hz
    by_cases q : d = a
    · subst q
      rcases hwh with ⟨_, rfl, _⟩ | ⟨rfl, hc, hc', _⟩
      · exact (Ns.not_cell hm0 hcd).elim
      · exact ⟨d, _, hd, hc', mud⟩
    · obtain ⟨o, e, dd⟩ := hcd
      exact ⟨d, w, hd, ⟨o, (hs.2 d q).trans e, dd⟩, mud⟩
  · rcases get_set_cases hj with ⟨rfl, rfl, _⟩ | ⟨hji, hj'⟩
    · exact ⟨y, kd, v, hn, slotN, bindK hb⟩
    · obtain ⟨z, kz, v', hz, hsz, hbz⟩ := x.vars j b' hj'
      exact ⟨z, kz, v', hz, (slotO hji hz).mp hsz, bindK hbz⟩
  · intro p q bp bq zp zq kp kq w hpq hp hq op oq np nq sp sq
    rcases get_set_cases hp with ⟨rfl, rfl, _⟩ | ⟨hpi, hp'⟩
    · rcases get_set_cases hq with ⟨rfl, _, _⟩ | ⟨hqi, hq'⟩
      · exact hpq rfl
      · rw [hn] at np; cases np
        have := SlotAt.eq sp slotN
        subst this
        exact ho op q bq zq kq hqi hq' oq nq ((slotO hqi nq).mpr sq)
    · rcases get_set_cases hq with ⟨rfl, rfl, _⟩ | ⟨hqi, hq'⟩
      · rw [hn] at nq; cases nq
        have := SlotAt.eq sq slotN
        subst this
        exact ho oq p bp zp kp hpi hp' op np ((slotO hpi np).mpr sp)
      · exact x.owns p q bp bq zp zq kp kq w hpq hp' hq' op oq np nq ((slotO hpi np).mpr sp) ((slotO hqi nq).mpr sq)
theorem store_var {A : Around} {Q : Unit → Shared → Prop} {E : Value → Shared → Prop} {i : Nat} {x : Str} {kd : NameKind} {b : Bind} {v : Value}
    (V : EnvSc env sc) (F : FSim c sc env σ g s) (hi : vloc sc x = some (i, kd)) (hk : kd = .local ∨ kd = .cell) (hb : BindOk c.w env g s.heap b v) (ho : b.own = true → NotOwned sc env σ.vs s.heap i v)
    (h : ∀ s', FSim c sc env (σ.set i b) g s' → Q () s') : wpAny (model c.prog c.w) A (storeName env x v) Q E s := by
  have hn := vloc_get hi
  have hl := lookup_of_get V.nodup hn
  rcases hk with rfl | rfl
  · obtain ⟨m, hm⟩ := F.fs.ns
    refine wpAny_storeName_local (V.loc _ hl) hm (fun h' hn' hs => h _ ⟨?_, ?_⟩) ?_
    · exact F.gs.touch F.fs.nsm hs.extBut rfl rfl
    · exact FS.store F.gs F.fs V.nodup hn hb ho hs (.inl ⟨rfl, rfl, m, hm, hn'⟩)
    · rw [V.kind]; rfl
  · obtain ⟨d, w, hd, hc, mu⟩ := F.fs.cell x (List.mem_of_getElem? hn)
    refine wpAny_storeName_cell V.kind (V.cell _ hl) hd hc fun h' hv hs => h _ ⟨?_, ?_⟩
    · exact F.gs.touch mu hs.extBut rfl rfl
    · exact FS.store F.gs F.fs V.nodup hn hb ho hs (.inr ⟨rfl, hd, hv, ⟨_, hc⟩, mu⟩)
def stK (kd : NameKind) : Bool := kd == .local || kd == .cell
theorem stK_or {kd : NameKind} (h : stK kd = true) : kd = .local ∨ kd = .cell := by
  cases kd <;> simp_all [stK]
theorem newOwn (V : EnvSc env sc) {s₁ : Shared} (F : FSim c sc env σ g s₁) {a : Addr} {b : Bind} (K : HExt s₁.heap s'.heap) (hn : s₁.heap.get? a = none) (N : NewAt c.w g s'.heap a b) (i : Nat) :
    BindOk c.w env g s'.heap b (.ref a) ∧ NotOwned sc env σ.vs s'.heap i (.ref a) := by
  have mu := F.gs.fresh hn
  constructor
  · cases b with
    | val p => exact N.elim
    | lst xs => obtain ⟨its, n, e, r, l⟩ := N; exact ⟨a, its, n, rfl, e, r, l, mu⟩
    | dct kvs =>
      obtain ⟨es, n, e, r, nd, l⟩ := N
      refine ⟨a, es, n, rfl, e, r, nd, l, mu, fun q => ?_⟩
      obtain ⟨m, hm⟩ := F.fs.ns
      obtain ⟨o, _, _, e', _⟩ := Ns.get_some hm
      rw [← q, hn] at e'; cases e'
  · intro j b' y k' hj hb' ho hy hs
    obtain ⟨y', k'', v', e', hs', hbo⟩ := F.fs.vars j b' hb'
    rw [hy] at e'; cases e'
    have hs2 : SlotAt env s'.heap y k' v' := by
      cases k' with
      | «local» => obtain ⟨m, ⟨o, es, ep, e, r⟩, e1⟩ := hs'; exact ⟨m, ⟨o, es, ep, K _ _ e, r⟩, e1⟩
      | cell => obtain ⟨d, hd, o, e, r⟩ := hs'; exact ⟨d, hd, o, K _ _ e, r⟩
      | free => obtain ⟨d, hd, o, e, r⟩ := hs'; exact ⟨d, hd, o, K _ _ e, r⟩
      | _ => exact hs'.elim
    have := SlotAt.eq hs hs2
    subst this
    cases b' with
    | val p => cases ho
    | lst xs => obtain ⟨a', its, n, e1, e2, _⟩ := hbo; cases e1; rw [hn] at e2; cases e2
    | dct xs => obtain ⟨a', its, n, e1, e2, _⟩ := hbo; cases e1; rw [hn] at e2; cases e2
theorem tra_name {x : Str} {pos : Pos} {i : Nat} {kd : NameKind} {p : PV} (hi : vloc sc x = some (i, kd)) (hk : stK kd = true) : TrA c k sc σ (.Name x pos) p (σ.set i (.val p)) := by
  intro A env g s v Q E L V F r hQ
  refine wpAny_assign_Name ?_
  exact store_var (b := .val p) V F hi (stK_or hk) r (fun h => by cases h) fun s' F' => hQ g s' (.refl g) F'
theorem tr_assign {x : Str} {p' pos : Pos} {e : Expr} {i : Nat} {kd : NameKind} {p : PV} (h : TrE c k sc σ e p σ₁) (hi : vloc sc x = some (i, kd)) (hk : stK kd = true)
    (hs : ∀ env : Env, swapsWith e (some (.Name x p')) pos.line env = pure false) : TrS c k sc σ (.Assign [.Name x p'] e pos) .next (σ₁.set i (.val p)) := by
  intro A env g s Q E L V F hQ
  refine wpAny_Assign_Name (h A env g s _ E L V F fun v g' s' N r => ?_) (hs env)
  exact store_var (b := .val p) V N.sim hi (stK_or hk) r (fun h => by cases h) fun s'' F'' => hQ _ g' s'' N.le F'' trivial
theorem tr_assignN {x : Str} {p' pos : Pos} {e : Expr} {i : Nat} {kd : NameKind} {b : Bind} (h : TrN c k sc σ e b σ₁) (hi : vloc sc x = some (i, kd)) (hk : stK kd = true)
    (hs : ∀ env : Env, swapsWith e (some (.Name x p')) pos.line env = pure false) : TrS c k sc σ (.Assign [.Name x p'] e pos) .next (σ₁.set i b) := by
  intro A env g s Q E L V F hQ
  refine wpAny_Assign_Name (h A env g s _ E L V F fun a g' s₁ s' N₁ K hn hg ho N => ?_) (hs env)
  obtain ⟨hb, hno⟩ := newOwn V N₁.sim K hn N i
  exact store_var V (N₁.sim.ext K hg ho) hi (stK_or hk) hb (fun _ => hno) fun s'' F'' => hQ _ g' s'' N₁.le F'' trivial
end
end RM
end
noncomputable section
namespace RM
def fdBody : Stmt → List Stmt
  | .FunctionDef _ _ b _ _ _ _ _ _ _ => b
  | _ => []
def fdScope : Stmt → Scope
  | .FunctionDef _ _ _ _ _ _ s _ _ _ => s
  | _ => { kind := .module, names := [], isGenerator := false, isCoroutine := false }
def fdNames : Stmt → List Str
  | .FunctionDef _ a _ _ _ _ _ _ _ _ => a.args.map (·.arg)
  | _ => []
def ScOk (sc : Scope) : Bool :=
  decide (sc.names.map (·.1)).Nodup && sc.kind == .function && !sc.isGenerator && !sc.isCoroutine &&
  sc.names.all fun p => !(p.1 == ("__debug__" : Str)) && !(p.1 == ("__classdict__" : Str))
def namesOk (sc : Scope) (pn : List Str) : Bool :=
  decide pn.Nodup && pn.all fun x => sc.names.lookup x == some .local || sc.names.lookup x == some .cell
structure FnOk (c : KB) (a : Addr) (st : Stmt) : Prop where
  ex : ∃ o fd, c.B0.get? a = some o ∧ o.data = .func fd ∧ fd.body = .stmts (fdBody st) ∧ fd.scope = fdScope st ∧ fd.closure = [] ∧ c.B0.CodeRec fd.code fd.qualname ∧ fd.globals = mainGlobals ∧ fd.builtins = builtinsNs ∧
    ∀ vals : List Value, vals.length = (fdNames st).length → bindArgs fd ⟨vals, []⟩ = pure ((fdNames st).zip vals)
def initVs (sc : Scope) (pn : List Str) (ps : List PV) : List (Option Bind) :=
  sc.names.map fun p => if stK p.2 then ((pn.zip ps).lookup p.1).map Bind.val else none
theorem lookup_zip {w : World} {g : G} : ∀ {pn : List Str} {vs : List Value} {ps : List PV}, Reps w g vs ps → ∀ {x : Str} {p : PV}, (pn.zip ps).lookup x = some p → ∃ v, (pn.zip vs).lookup x = some v ∧ Rep w g v p
  | [], _, _, _, _, _, h => by simp at h
  | n :: pn, _, _, .nil, _, _, h => by simp at h
  | n :: pn, _, _, .cons (v := v) (p := p') r rs, x, p, h => by
    simp only [List.zip_cons_cons, List.lookup_cons] at h ⊢
    cases hx : x == n with
    | true => simp only [hx] at h ⊢; exact ⟨v, rfl, by cases h; exact r⟩
    | false => simp only [hx] at h ⊢; exact lookup_zip rs h
theorem bindL_notin {kindOf : Str → Option NameKind} {x : Str} : ∀ {binds : List (Str × Value)} {m : Str → Option Value}, x ∉ binds.map (·.1) → bindL kindOf binds m x = m x
  | [], m, _ => rfl
  | (n, v) :: r, m, h => by
    simp only [List.map_cons, List.mem_cons, not_or] at h
    unfold bindL
    rw [bindL_notin h.2]
    split
    · simp [h.1]
    · rfl
theorem bindC_notin {kindOf : Str → Option NameKind} {x : Str} : ∀ {binds : List (Str × Value)} {m : Str → Option Value}, x ∉ binds.map (·.1) → bindC kindOf binds m x = m x
  | [], m, _ => rfl
  | (n, v) :: r, m, h => by
    simp only [List.map_cons, List.mem_cons, not_or] at h
    unfold bindC
    rw [bindC_notin h.2]
    split
    · rfl
    · simp [h.1]
theorem bindL_in {kindOf : Str → Option NameKind} {x : Str} {v : Value} (hk : kindOf x = some .local) : ∀ {binds : List (Str × Value)} {m : Str → Option Value}, (binds.map (·.1)).Nodup → binds.lookup x = some v → bindL kindOf binds m x = some v
  | [], m, _, h => by cases h
  | (n, v') :: r, m, nd, h => by
    simp only [List.map_cons, List.nodup_cons] at nd
    unfold bindL
    rw [List.lookup_cons] at h
    cases hx : x == n with
    | true =>
      simp only [hx] at h
      have hx' : x = n := by simpa using hx
      subst hx'
      rw [bindL_notin nd.1, if_pos hk]
      simpa using h
    | false =>
      simp only [hx] at h
      exact bindL_in hk nd.2 h
theorem bindC_in {kindOf : Str → Option NameKind} {x : Str} {v : Value} (hk : kindOf x = some .cell) : ∀ {binds : List (Str × Value)} {m : Str → Option Value}, (binds.map (·.1)).Nodup → binds.lookup x = some v → bindC kindOf binds m x = some v
  | [], m, _, h => by cases h
  | (n, v') :: r, m, nd, h => by
    simp only [List.map_cons, List.nodup_cons] at nd
    unfold bindC
    rw [List.lookup_cons] at h
    cases hx : x == n with
    | true =>
      simp only [hx] at h
      have hx' : x = n := by simpa using hx
      subst hx'
      rw [bindC_notin nd.1, if_neg (by rw [hk]; simp)]
      simpa using h
    | false =>
      simp only [hx] at h
      exact bindC_in hk nd.2 h
theorem zip_keys {α : Type} : ∀ {pn : List Str} {vs : List α}, vs.length = pn.length → (pn.zip vs).map (·.1) = pn
  | [], _, _ => by simp
  | n :: pn, [], h => by simp at h
  | n :: pn, v :: vs, h => by simp [zip_keys (pn := pn) (vs := vs) (by simpa using h)]
theorem get_none_of_ge {h : Heap} {a : Addr} (x : h.objs.size ≤ a) : h.get? a = none := by
  cases e : h.get? a with
  | none => rfl
  | some o => exact absurd (Heap.lt_size e) (Nat.not_lt.mpr x)
theorem Lim.deeper {k : Nat} {A : Around} {env : Env} (L : Lim k A) (hk : k + 1 ≤ 150) : Lim (k + 1) (A.deeper env) := by
  obtain ⟨l, hl⟩ := L.fr
  refine ⟨L.hd, ?_, ?_, hk, ⟨env :: l, ?_⟩⟩
  · have := L.dep; show A.depth + 1 ≤ _; omega
  · have := L.un; show A.units + 3 ≤ _; omega
  · show A.frames.map (env :: ·) = _; rw [hl]; rfl
section
variable {c : KB} {k : Nat} {sc : Scope} {σ σ' σ₁ σ₂ σ₃ : St}
theorem envSc_call {fd : FuncData} {st : Stmt} (hs : fd.scope = fdScope st) (hg : fd.globals = mainGlobals) (hb : fd.builtins = builtinsNs) (ok : ScOk (fdScope st) = true) (L a : Addr) : EnvSc (callEnvC fd L a) (fdScope st) := by
  simp only [ScOk, Bool.and_eq_true, decide_eq_true_eq, beq_iff_eq, Bool.not_eq_true', List.all_eq_true] at ok
  obtain ⟨⟨⟨⟨nd, kk⟩, gg⟩, co⟩, db⟩ := ok
  refine ⟨?_, ?_, hg, hb, fun x h => ?_, fun x h => ?_, fun x h => ?_, fun x h => ?_, fun x kd h => ?_, nd⟩
  · show fd.scope.kind = _; rw [hs]; exact kk
  · show fd.scope.isGenerator = _; rw [hs]; exact gg
  · show fd.scope.names.lookup x = _; rw [hs]; exact h
  · show fd.scope.names.lookup x = _; rw [hs]; exact h
  · left; show fd.scope.names.lookup x = _; rw [hs]; exact h
  · show fd.scope.names.lookup x = _; rw [hs]; exact h
  · exact db _ h
def FnCode (c : KB) (k : Nat) (a : Addr) (ps : List PV) (pl : List PRec) (res : PV) (pl' : List PRec) : Prop :=
  ∀ (A : Around) (g : G) (s : Shared) (vs : List Value) (R : Result → Shared → Prop), Lim k A → GS c pl g s → Reps c.w g vs ps →
    (∀ v g' s', g.le g' → GS c pl' g' s' → Rep c.w g' v res → R (.ok (.ret v)) s') → codeAny (model c.prog c.w) A (.call (.ref a) ⟨vs, []⟩) R s
theorem fn_introC {a : Addr} {st : Stmt} {ps : List PV} {pl : List PRec} {res : PV} {fl : Fl} {σ' : St}
    (hf : FnOk c a st) (hlen : ps.length = (fdNames st).length) (hsc : ScOk (fdScope st) = true) (hpn : namesOk (fdScope st) (fdNames st) = true)
    (hk : k + 1 ≤ 150)
    (hb : TrSs c (k + 1) (fdScope st) ⟨initVs (fdScope st) (fdNames st) ps, pl⟩ (fdBody st) fl σ') (hfl : fl = .ret res ∨ (fl = .next ∧ res = .none)) : FnCode c k a ps pl res σ'.pl := by
  intro A g s vs Rr L X R hQ
  obtain ⟨o, fd, ho, hd, hbody, hscope, hclo, hcode, hglob, hbi, hbind⟩ := hf.ex
  have ok := hsc
  simp only [ScOk, Bool.and_eq_true, decide_eq_true_eq, beq_iff_eq, Bool.not_eq_true', List.all_eq_true] at ok
  obtain ⟨⟨⟨⟨nd, kk⟩, gg⟩, co⟩, db⟩ := ok
  simp only [namesOk, Bool.and_eq_true, decide_eq_true_eq, List.all_eq_true, Bool.or_eq_true, beq_iff_eq] at hpn
  obtain ⟨pnd, pk⟩ := hpn
  have hvl : vs.length = (fdNames st).length := R.length.trans hlen
  have keys := zip_keys (pn := fdNames st) (vs := vs) hvl
  refine (codeAny_call_cells (fd := fd) (body := fdBody st) (binds := (fdNames st).zip vs) ?_ (X.heap0 _ _ ho) hd (X.ok.nolimit.keeps X.heap0) (hcode.keeps X.heap0) hbody (hbind vs hvl) hclo ?_ (fun s₁ I => ?_) ?_ ?_ ?_)
  · have := L.dep; have := L.k; show A.depth < 1000; omega
  · intro x hx
    have hx' : x.1 ∈ fdNames st := by rw [← keys]; exact List.mem_map.mpr ⟨x, hx, rfl⟩
    rw [hscope]
    rcases pk x.1 hx' with h | h
    · exact .inl h
    · exact .inr ⟨h, cellsFrom_some _ _ _ (.inl h)⟩
  · obtain ⟨h₁, tk, rfl, hkeep⟩ := I.done
    have V := envSc_call hscope hglob hbi hsc s.heap.objs.size a
    have fresh : ∀ b, s.heap.objs.size ≤ b → Mut g b := fun b hb => X.fresh (get_none_of_ge hb)
    have X₁ : GS c pl g { s with heap := h₁, toks := tk } := X.evolve (.refl g) rfl rfl hkeep (fun a o e => hkeep _ _ (X.fz _ _ e)) (fun a o e => X.dis a o e) (fun a h => (X.dxf a h).1) rfl rfl
    have F : FSim c (fdScope st) (callEnvC fd s.heap.objs.size a) ⟨initVs (fdScope st) (fdNames st) ps, pl⟩ g { s with heap := h₁, toks := tk } := by
      refine ⟨X₁, ⟨_, I.toInCall.ns⟩, fresh _ (Nat.le_refl _), fun x hx => ?_, fun x y cc hx hy e1 e2 => ?_, fun i b hi => ?_, ?_⟩
      · have hl : (fdScope st).names.lookup x = some .cell := by
          obtain ⟨i, hi⟩ := List.getElem?_of_mem hx
          exact lookup_of_get nd hi
        have := cellsFrom_some (x := x) (fdScope st).names (s.heap.objs.size + 1) [] (.inl hl)
        obtain ⟨cc, hcc⟩ := Option.isSome_iff_exists.mp this
        have hcc' : (callEnvC fd s.heap.objs.size a).cells.lookup x = some cc := by show (cellsFrom _ fd.scope.names []).lookup x = _; rw [hscope]; exact hcc
        refine ⟨cc, _, hcc', I.cell x cc hcc', fresh _ (Nat.le_of_lt (I.above x cc (mem_of_lookup hcc')))⟩
      · exact name_of_addr I.apart (mem_of_lookup e1) (mem_of_lookup e2)
      · simp only [initVs, List.getElem?_map] at hi
        cases hn : (fdScope st).names[i]? with
        | none => rw [hn] at hi; simp at hi
        | some q =>
          obtain ⟨x, kd⟩ := q
          rw [hn] at hi
          simp only [Option.map_some, Option.some.injEq] at hi
          split at hi
          · rename_i hkd
            obtain ⟨p, hp, rfl⟩ := Option.map_eq_some_iff.mp hi
            obtain ⟨v, hv, rv⟩ := lookup_zip R hp
            refine ⟨x, kd, v, rfl, ?_, rv⟩
            have hl := lookup_of_get nd hn
            have hkk : (callEnvC fd s.heap.objs.size a).kindOf x = some kd := by show fd.scope.names.lookup x = _; rw [hscope]; exact hl
            rcases stK_or hkd with rfl | rfl
            · exact ⟨_, I.toInCall.ns, bindL_in hkk (by rw [keys]; exact pnd) hv⟩
            · have := cellsFrom_some (x := x) (fdScope st).names (s.heap.objs.size + 1) [] (.inl hl)
              obtain ⟨cc, hcc⟩ := Option.isSome_iff_exists.mp this
              have hcc' : (callEnvC fd s.heap.objs.size a).cells.lookup x = some cc := by show (cellsFrom _ fd.scope.names []).lookup x = _; rw [hscope]; exact hcc
              refine ⟨cc, hcc', ?_⟩
              have := I.cell x cc hcc'
              rwa [bindC_in hkk (by rw [keys]; exact pnd) hv] at this
          · cases hi
      · intro i j b b' x y k1 k2 v hij hi hj ob
        exfalso
        simp only [initVs, List.getElem?_map] at hi
        cases hn : (fdScope st).names[i]? with
        | none => rw [hn] at hi; simp at hi
        | some q =>
          rw [hn] at hi
          simp only [Option.map_some, Option.some.injEq] at hi
          split at hi
          · obtain ⟨p, hp, rfl⟩ := Option.map_eq_some_iff.mp hi
            cases ob
          · cases hi
    refine hb _ _ g _ _ _ (L.deeper hk) V F fun f g' s' l F' hfo => ?_
    rcases hfl with rfl | ⟨rfl, rfl⟩
    · cases f with
      | ret v => exact hQ v g' s' l F'.gs hfo
      | _ => exact hfo.elim
    · cases f with
      | next => exact hQ _ g' s' l F'.gs .none
      | _ => exact hfo.elim
  · rw [hscope]; exact co
  · rw [hscope]; exact gg
  · rw [hscope]; exact kk
theorem fn_intro {a : Addr} {st : Stmt} {ps : List PV} {pl : List PRec} {res : PV} {fl : Fl} {σ' : St}
    (hf : FnOk c a st) (hlen : ps.length = (fdNames st).length) (hsc : ScOk (fdScope st) = true) (hpn : namesOk (fdScope st) (fdNames st) = true)
    (hk : k + 1 ≤ 150)
    (hb : TrSs c (k + 1) (fdScope st) ⟨initVs (fdScope st) (fdNames st) ps, pl⟩ (fdBody st) fl σ') (hfl : fl = .ret res ∨ (fl = .next ∧ res = .none)) : FnSpec c k a ps pl res σ'.pl := by
  intro A g s vs Q E L X R hQ
  exact wpAny_call (fn_introC hf hlen hsc hpn hk hb hfl A g s vs _ L X R fun v g' s' l X' r => hQ v g' s' l X' r)
def IsFnAt (c : KB) (a : Addr) : Prop := ∃ o fd, c.B0.get? a = some o ∧ o.data = .func fd
theorem FnOk.isFn {a : Addr} {st : Stmt} (h : FnOk c a st) : IsFnAt c a := let ⟨o, fd, e, d, _⟩ := h.ex; ⟨o, fd, e, d⟩
theorem tra_nil : TrArgs c k sc σ [] [] σ := by
  intro pos A env g s Q E L V F hQ
  exact args_nil (hQ _ g s (.refl F) .nil)
theorem tra_cons {e : Expr} {r : List Expr} {p : PV} {ps : List PV} (he : ∀ env, starEach (e :: r) env = (false, eval e env) :: starEach r env) (h : TrE c k sc σ e p σ₁) (h' : TrArgs c k sc σ₁ r ps σ₂) : TrArgs c k sc σ (e :: r) (p :: ps) σ₂ := by
  intro pos A env g s Q E L V F hQ
  refine args_cons (h A env g s _ E L V F fun v g' s' N rv => ?_) (he env)
  exact h' pos A env g' s' _ E L V N.sim fun vs g'' s'' N' rvs => hQ _ g'' s'' (N.trans N') (.cons (rv.le N'.le) rvs)
def PlainArgs (es : List Expr) : Prop := ∀ env, starEach es env = (evalEach es env).map fun t => (false, t)
theorem evalArgs_tr {es : List Expr} {ps : List PV} (hp : PlainArgs es) (h : TrArgs c k sc σ es ps σ') {f : Value} {pos : Pos} {A : Around} {env : Env} {g : G} {s : Shared} {Q : Args → Shared → Prop} {E : Value → Shared → Prop}
    (L : Lim k A) (V : EnvSc env sc) (F : FSim c sc env σ g s) (hQ : ∀ vs g' s', Next c sc env σ' g s g' s' → Reps c.w g' vs ps → Q ⟨vs, []⟩ s') :
    wpAny (model c.prog c.w) A (evalArgs f true (backTo pos (starEach es env)) []) Q E s := by
  have := h pos A env g s (fun vs s' => Q ⟨vs, []⟩ s') E L V F hQ
  cases es with
  | nil =>
    unfold evalArgs
    show wpAny _ _ (spliced [] >>= _) _ _ _
    refine wpAny_bind (wpAny_mono this (fun vs s' h' => wpAny_bind (wpAny_pure ?_)) fun _ _ x => x)
    refine wpAny_holding ?_
    exact wpAny_bind (wpAny_pure (wpAny_bind (wpAny_pure (wpAny_pure h'))))
  | cons e r =>
    rw [hp env] at this ⊢
    exact Calls.evalArgs_plain this
end
end RM
end
noncomputable section
namespace RM
section
variable {c : KB} {k : Nat} {sc : Scope} {σ σ' σ₁ σ₂ σ₃ : St} {pl : List PRec} {g g' : G} {s s' : Shared} {env : Env}
theorem GS.KIn (x : GS c pl g s) : c.K.In s.heap := x.ok.K.keeps x.heap0
theorem load_global {A : Around} {Q : Value → Shared → Prop} {E : Value → Shared → Prop} {i : Nat} {x : Str} {v : Value} {pos : Pos}
    (V : EnvSc env sc) (X : GS c pl g s) (hi : vloc sc x = some (i, .globalImplicit)) (hv : c.mg x = some v) (h : Q v s) : wpAny (model c.prog c.w) A (eval (.Name x pos) env) Q E s := by
  have hn := vloc_get hi
  refine Calls.Name_function_global V.kind (V.gi _ (lookup_of_get V.nodup hn)) (Calls.loadGlobal_global (mg := c.mg) ?_ hv h) (V.dbg x _ (List.mem_of_getElem? hn)).1
  rw [V.glob]; exact X.ok.g.keeps X.heap0
theorem load_builtin {A : Around} {Q : Value → Shared → Prop} {E : Value → Shared → Prop} {i : Nat} {x : Str} {v : Value} {pos : Pos}
    (V : EnvSc env sc) (X : GS c pl g s) (hi : vloc sc x = some (i, .globalImplicit)) (hg : c.mg x = none) (hb : bootBuiltins x = some v) (hne : x ≠ "__name__") (h : Q v s) : wpAny (model c.prog c.w) A (eval (.Name x pos) env) Q E s := by
  have hn := vloc_get hi
  refine Calls.Name_function_global V.kind (V.gi _ (lookup_of_get V.nodup hn)) (Calls.loadGlobal_builtin (mg := c.mg) (mb := c.mb) ?_ hg ?_ ((X.ok.builtins x hne).trans hb) h) (V.dbg x _ (List.mem_of_getElem? hn)).1
  · rw [V.glob]; exact X.ok.g.keeps X.heap0
  · rw [V.bi]; exact X.ok.b.keeps X.heap0
theorem stay_max {pl' : List PRec} (F : FSim c sc env σ g s) (l : (g.maxfx s.heap).le g') (y : GS c pl' g' s') : Stay env s.heap s'.heap := by
  have K : ∀ a o, s.heap.get? a = some o → a ∉ g.dx → s'.heap.get? a = some o := fun a o e hd => by
    cases q : g.fz a with
    | none =>
      refine y.fx a o ?_
      rw [l.fx]; simp [G.maxfx, q, hd, e]
    | some o' =>
      have := F.gs.fz _ _ q
      rw [e] at this; cases this
      exact y.fz _ _ (l.fz _ _ q)
  exact ⟨fun m ⟨o, es, ep, e, r⟩ => ⟨o, es, ep, K _ _ e F.fs.nsm.2.2, r⟩, fun x a v _ hc => let ⟨o, e, d⟩ := hc; ⟨o, K _ _ e (F.gs.cell_notin hc), d⟩⟩
theorem call_fn {a : Addr} {ps : List PV} {res : PV} {pl' : List PRec} {A : Around} {Q : Value → Shared → Prop} {E : Value → Shared → Prop} {vs : List Value} (hs : FnSpec c k a ps σ.pl res pl')
    (L : Lim k A) (F : FSim c sc env σ g s) (R : Reps c.w g vs ps) (hQ : ∀ v g' s', Next c sc env { σ with pl := pl' } g s g' s' → Rep c.w g' v res → Q v s') :
    wpAny (model c.prog c.w) A (call (.ref a) vs) Q E s := by
  refine hs A (g.maxfx s.heap) s vs Q E L F.gs.maxfx (Reps.mono (g := g) (g' := g.maxfx s.heap) (fun _ _ q => q) (fun _ _ q => q) R) fun v g' s' l X r => ?_
  exact hQ v _ s' ⟨unmax_le l, F.unmax l X, stay_max F l X⟩ (Rep.mono (g := g') (g' := { g' with fx := g.fx }) (fun _ _ q => q) (fun _ _ q => q) r)
theorem tr_call {f : Str} {p' pos : Pos} {args : List Expr} {a : Addr} {ps : List PV} {res : PV} {pl' : List PRec} {i : Nat} (hi : vloc sc f = some (i, .globalImplicit)) (hf : c.mg f = some (.ref a)) (hfo : IsFnAt c a)
    (hp : PlainArgs args) (ha : TrArgs c k sc σ args ps σ₁) (hs : FnSpec c k a ps σ₁.pl res pl') : TrE c k sc σ (.Call (.Name f p') args [] pos) res { σ₁ with pl := pl' } := by
  intro A env g s Q E L V F hQ
  refine wpAny_Call_NameR (load_global V F.gs hi hf ?_)
  obtain ⟨o, fd, ho, hd⟩ := hfo
  refine Calls.callWith_function (o := o) (fd := fd) (evalArgs_tr hp ha L V F fun vs g' s' N R => ⟨⟨N.sim.gs.heap0 _ _ ho, hd⟩, ?_⟩)
  exact call_fn hs L N.sim R fun v g'' s'' N' r => hQ v g'' s'' (N.trans N') r
theorem getL_rep {w : World} {x : Str} : ∀ {es : List DictEntry} {r : PRec}, RepD w g es r → ∀ {p : PV}, r.lookup x = some p → ∃ v, getL x es = some (some v) ∧ Rep w g v p
  | _, _, .nil, p, h => by simp at h
  | _, _, .cons (k := k) (t := t) (v := v) (p := p') (es := es) (kvs := kvs) rv rd, p, h => by
    rw [List.lookup_cons] at h
    unfold getL
    rw [List.find?_cons]
    cases hx : x == k with
    | true =>
      simp only [hx] at h
      have hk : k = x := (by simpa using hx : x = k).symm
      have : (Value.str k t).isStr x = true := by rw [hk]; simp [Value.isStr]
      simp only [this]
      cases h; exact ⟨v, rfl, rv⟩
    | false =>
      simp only [hx] at h
      have : (Value.str k t).isStr x = false := by
        show (k == x) = false
        cases q : k == x with
        | false => rfl
        | true => have : k = x := by simpa using q
                  subst this; simp at hx
      simp only [this]
      obtain ⟨v', e, rr⟩ := getL_rep rd h
      refine ⟨v', ?_, rr⟩
      rw [← e]
      unfold getL
      have hr : ((⟨strHashOf w k, .str k t, v⟩ : DictEntry) :: es).any (·.refKey) = es.any (·.refKey) := by simp [DictEntry.refKey]
      rw [hr]
theorem getL_none {w : World} {x : Str} : ∀ {es : List DictEntry} {r : PRec}, RepD w g es r → r.lookup x = none → getL x es = some none
  | _, _, .nil, h => rfl
  | _, _, .cons (k := k) (t := t) (v := v) (p := p') (es := es) (kvs := kvs) rv rd, h => by
    rw [List.lookup_cons] at h
    cases hx : x == k with
    | true => simp only [hx] at h; cases h
    | false =>
      simp only [hx] at h
      have : (Value.str k t).isStr x = false := by
        show (k == x) = false
        cases q : k == x with
        | false => rfl
        | true => have : k = x := by simpa using q
                  subst this; simp at hx
      have e := getL_none rd h
      rw [← e]
      unfold getL
      rw [List.find?_cons]
      simp only [this]
      have hr : ((⟨strHashOf w k, .str k t, v⟩ : DictEntry) :: es).any (·.refKey) = es.any (·.refKey) := by simp [DictEntry.refKey]
      rw [hr]
def putA (x : Str) (p : PV) : List (Str × PV) → List (Str × PV)
  | [] => [(x, p)]
  | (y, q) :: r => if y == x then (y, p) :: r else (y, q) :: putA x p r
theorem putL_rep {w : World} {x : Str} {t : Tok} {v : Value} {p : PV} (rv : Rep w g v p) : ∀ {es : List DictEntry} {r : List (Str × PV)}, RepD w g es r → RepD w g (putL x (strHashOf w x) (.str x t) v es) (putA x p r)
  | _, _, .nil => .cons rv .nil
  | _, _, .cons (k := k) (t := t') (v := v') (p := p') (es := es) (kvs := kvs) rv' rd => by
    unfold putL putA
    have e : (Value.str k t').isStr x = (k == x) := rfl
    dsimp only
    rw [e]
    cases hx : k == x with
    | true => simp only [if_true]; exact .cons rv rd
    | false => simp only [Bool.false_eq_true, if_false]; exact .cons rv' (putL_rep rv rd)
theorem putA_keys {x : Str} {p : PV} : ∀ {r : List (Str × PV)}, (r.map (·.1)).Nodup → ((putA x p r).map (·.1)).Nodup ∧ (∀ y, y ∈ (putA x p r).map (·.1) ↔ y = x ∨ y ∈ r.map (·.1))
  | [], _ => by simp [putA]
  | (y, q) :: r, nd => by
    simp only [List.map_cons, List.nodup_cons] at nd
    unfold putA
    cases hx : y == x with
    | true =>
      have hyx : y = x := by simpa using hx
      subst hyx
      simp only [if_true, List.map_cons, List.nodup_cons]
      exact ⟨nd, fun z => by simp⟩
    | false =>
      have hyx : y ≠ x := by simpa using hx
      obtain ⟨h1, h2⟩ := putA_keys (p := p) nd.2 (x := x)
      simp only [Bool.false_eq_true, if_false, List.map_cons, List.nodup_cons]
      refine ⟨⟨fun hm => ?_, h1⟩, fun z => ?_⟩
      · rcases (h2 y).mp hm with rfl | hm
        · exact hyx rfl
        · exact nd.1 hm
      · simp only [List.mem_cons, h2]
        constructor
        · rintro (rfl | rfl | h)
          · exact .inr (.inl rfl)
          · exact .inl rfl
          · exact .inr (.inr h)
        · rintro (rfl | rfl | h)
          · exact .inr (.inl rfl)
          · exact .inl rfl
          · exact .inr (.inr h)
theorem putA_length {x : Str} {p : PV} : ∀ {r : List (Str × PV)}, (putA x p r).length ≤ r.length + 1
  | [] => by simp [putA]
  | (y, q) :: r => by
    unfold putA
    split
    · simp
    · have := putA_length (x := x) (p := p) (r := r); simp; omega
theorem GS.inst (X : GS c pl g s) {i : Nat} {r : PRec} (hr : pl[i]? = some r) : ∃ a d es n, g.φ[i]? = some a ∧ g.dx[i]? = some d ∧ s.heap.get? a = some (instObj c.C d) ∧ s.heap.get? d = some (dictOf es n) ∧
    InstAt s.heap a (instObj c.C d) c.C (some (dictOf es n)) ∧ RepD c.w g es r ∧ (r.map (·.1)).Nodup ∧ es.length ≤ 100 := by
  obtain ⟨a, d, es, n, e1, e2, e3, e4, e5, e6, e7⟩ := X.pls i r hr
  have ha := X.fz _ _ e3
  exact ⟨a, d, es, n, e1, e2, ha, e4, ⟨ha, rfl, rfl, e4⟩, e5, e6, e7⟩
theorem get_attr {A : Around} {E : Value → Shared → Prop} {i : Nat} {r : PRec} {x : Str} {p : PV} {v : Value} {ex : Bool} {Q : Value → Shared → Prop} (X : GS c pl g s) (hv : Rep c.w g v (.obj i)) (hr : pl[i]? = some r) (hx : x ∈ attrNames) (hp : r.lookup x = some p)
    (hQ : ∀ v', Rep c.w g v' p → Q v' { s with toks := s.toks + 1 }) : wpAny (model c.prog c.w) A (getAttr v x ex) Q E s := by
  obtain ⟨a, d, es, n, e1, e2, ha, hd, I, rd, nd, le⟩ := X.inst hr
  cases hv with
  | obj e =>
    rw [e1] at e; cases e
    obtain ⟨v', hl, rv⟩ := getL_rep rd hp
    obtain ⟨⟨at', hf, hng⟩, _⟩ := X.ok.cls.at' x hx
    refine get_value X.KIn I X.ok.cls.ga (findObj_own X.ok.cls.hd hf hng (by rw [lookIn_dict]; exact hl)) ?_ (hQ v' rv)
    cases rv <;> rfl
theorem tr_attr {o : Expr} {x : Str} {pos : Pos} {i : Nat} {r : PRec} {p : PV} (ho : TrE c k sc σ o (.obj i) σ₁) (hr : σ₁.pl[i]? = some r) (hx : x ∈ attrNames) (hp : r.lookup x = some p)
    (hb : ∀ env, eval (.Attribute o x pos) env = (do let v ← eval o env; standAt pos.atName; let r ← holding [v] (getAttr v x true); letTemporaryGo o v r; pure r)) : TrE c k sc σ (.Attribute o x pos) p σ₁ := by
  intro A env g s Q E L V F hQ
  refine Attribute_any_ (ho A env g s _ E L V F fun v g' s' N rv => ?_) (hb env)
  exact get_attr N.sim.gs rv hr hx hp fun v' r' => hQ v' g' _ ⟨N.le, N.sim.toks _, N.stay⟩ r'
theorem set_attr {A : Around} {E : Value → Shared → Prop} {i : Nat} {r : PRec} {x : Str} {p : PV} {v u : Value} {Q : Unit → Shared → Prop} (F : FSim c sc env σ g s) (hv : Rep c.w g v (.obj i)) (hr : σ.pl[i]? = some r) (hx : x ∈ attrNames) (hu : Rep c.w g u p) (hlen : r.length < 50)
    (hQ : ∀ s', FSim c sc env { σ with pl := σ.pl.set i (putA x p r) } g s' → Q () s') : wpAny (model c.prog c.w) A (setAttr v x u) Q E s := by
  obtain ⟨a, d, es, n, e1, e2, ha, hd, I, rd, nd, le⟩ := F.gs.inst hr
  cases hv with
  | obj e =>
    rw [e1] at e; cases e
    obtain ⟨_, ht⟩ := F.gs.ok.cls.at' x hx
    have X := F.gs.KIn
    refine set_plain X I F.gs.ok.cls.sa ?_
    refine osa_open (s := { s with toks := s.toks + 1 }) X I F.gs.ok.cls.po ht fun b => ?_
    obtain ⟨cd, hc, hd'⟩ := any_some F.gs.ok.cls.hd
    refine wpAny_bind (wpAny_pure (wpAny_bind (wpAny_bind (wpAny_loadPart ha (wpAny_bind (Looks.here (s := { s with toks := s.toks + 1 }) (looks_clsIn X hc) ?_))))))
    rw [hd']
    refine wpAny_pure (a := some d) (wpAny_bind (wpAny_pure (wpAny_bind ?_)))
    unfold nsSet
    refine wpAny_bind (wpAny_bind (wpAny_askSetting (wpAny_pure (wpAny_bind (wpAny_mkText (wpAny_bind (wpAny_loadPart hd ?_)))))))
    have noRef : ∀ {es : List DictEntry} {r : PRec}, RepD c.w g es r → es.any (·.refKey) = false := fun {es r} rd => by
      induction es generalizing r with
      | nil => rfl
      | cons e es ih => cases rd with
        | cons rv rd => simp only [List.any_cons, ih rd, Bool.or_false]; rfl
    have c1 : (!es.toArray.any (·.key.isStr x) && es.toArray.any (·.refKey)) = false := by
      have h2 : es.toArray.any (·.refKey) = false := by rw [← Array.any_toList]; exact noRef rd
      rw [h2, Bool.and_false]
    dsimp only
    rw [aRefKeyMayBeTheName_at, c1]
    refine wpAny_updatePart hd ?_
    have hnew : Obj.putName x (PyData.keyHash c.w.params x) (.str x (s.toks + 1)) u (dictOf es n) = dictOf (putL x (strHashOf c.w x) (.str x (s.toks + 1)) u es) (putN x es n) := putName_dict ..
    have hget : (s.heap.update d (Obj.putName x (PyData.keyHash c.w.params x) (.str x (s.toks + 1)) u)).get? d = some (dictOf (putL x (strHashOf c.w x) (.str x (s.toks + 1)) u es) (putN x es n)) := by
      rw [← hnew]; exact Heap.get?_update_self _ hd (by rw [hnew]; rfl)
    have rd' := putL_rep (x := x) (t := s.toks + 1) hu rd
    have hlen' : (putL x (strHashOf c.w x) (.str x (s.toks + 1)) u es).length ≤ 100 := by
      rw [rd'.length]
      have := putA_length (x := x) (p := p) (r := r)
      omega
    refine wpAny_bind (wpAny_lookBehind hget (pastItsLine_dict (by rw [List.size_toArray, sizeLine_eq]; omega)) ?_)
    refine wpAny_pure (hQ _ ?_)
    have other : ∀ b, b ≠ d → (s.heap.update d (Obj.putName x (PyData.keyHash c.w.params x) (.str x (s.toks + 1)) u)).get? b = s.heap.get? b := fun b hb => Heap.get?_update_other _ _ (Ne.symm hb)
    have dmem : d ∈ g.dx := List.mem_of_getElem? e2
    obtain ⟨dfz, dfx⟩ := F.gs.dxf d dmem
    refine ⟨⟨F.gs.ok, fun b o e => ?_, fun b o e => ?_, F.gs.dis, F.gs.base, by simpa using F.gs.lenφ, by simpa using F.gs.lendx, fun j r' hj => ?_, F.gs.dxn, F.gs.dxf, F.gs.gens, F.gs.os⟩, ?_⟩
    · have hb : b ≠ d := fun q => by rw [q, dfz] at e; cases e
      exact (other b hb).trans (F.gs.fz _ _ e)
    · have hb : b ≠ d := fun q => by rw [q, dfx] at e; cases e
      exact (other b hb).trans (F.gs.fx _ _ e)
    · by_cases q : j = i
      · subst q
        have hlt : j < σ.pl.length := (List.getElem?_eq_some_iff.mp hr).1
        rw [List.getElem?_set_self hlt] at hj
        cases hj
        exact ⟨a, d, _, _, e1, e2, by
          obtain ⟨a', d', es', n', f1, f2, f3, _⟩ := F.gs.pls j r hr
          rw [e1] at f1; cases f1; rw [e2] at f2; cases f2; exact f3, hget, rd', (putA_keys nd).1, hlen'⟩
      · rw [List.getElem?_set_ne (Ne.symm q)] at hj
        obtain ⟨a', d', es', n', f1, f2, f3, f4, f5⟩ := F.gs.pls j r' hj
        have hne : d' ≠ d := fun z => by
          subst z
          have hi : j < g.dx.length := (List.getElem?_eq_some_iff.mp f2).1
          exact q ((List.getElem?_inj hi F.gs.dxn).mp (f2.trans e2.symm))
        exact ⟨a', d', es', n', f1, f2, f3, (other d' hne).trans f4, f5⟩
    · exact FS.evolve F.gs F.fs (fun _ _ q => q) (fun _ _ q => q) (fun b o e _ hb => (other b (fun q => hb (q ▸ dmem))).trans e) (fun _ _ _ m => m)
end
end RM
end
noncomputable section
namespace RM
section
variable {c : KB} {k : Nat} {sc : Scope} {σ σ' σ₁ σ₂ σ₃ : St} {pl : List PRec} {g g' : G} {s s' : Shared} {env : Env}
theorem plain_form {es : List Expr} (hp : PlainArgs es) (hn : es.length < 30) (env : Env) (pos : Pos) : methodCallForm (es.length + ([] : List Keyword).length) (backTo pos (starEach es env)) (backToKw pos (keywordEach [] env)) = true := by
  rw [hp env]
  unfold methodCallForm
  have h1 : (backTo pos ((evalEach es env).map fun t => (false, t))).all (!·.1) = true := by
    rw [List.all_eq_true]
    intro x hx
    simp only [backTo, List.map_map, List.mem_map, Function.comp] at hx
    obtain ⟨y, _, rfl⟩ := hx
    rfl
  have h2 : (backToKw pos (keywordEach [] env)).all (·.1.isSome) = true := rfl
  have h3 : (backToKw pos (keywordEach [] env)).isEmpty = true := rfl
  rw [h1, h2, h3]
  simpa using hn
theorem call_attr {o : Expr} {name : Str} {apos pos : Pos} {args : List Expr} {A : Around} {Q : Value → Shared → Prop} {E : Value → Shared → Prop} (hb : ∀ env, attributeBase o name env (eval o env) = eval o env) (hp : PlainArgs args) (hn : args.length < 30)
    (hl : (apos.endLine == pos.line) = true) (h : wpAny (model c.prog c.w) A (eval o env) (fun ov s₁ => ∀ pl, wpAny (model c.prog c.w) A (getMethod ov name pl) (fun p s₂ => wpAny (model c.prog c.w) A (callWith pos p.1 p.2 (backTo pos (starEach args env)) []) Q E s₂) E s₁) E s) :
    wpAny (model c.prog c.w) A (eval (.Call (.Attribute o name apos) args [] pos) env) Q E s := by
  rw [arm_eval_Call, hb]
  refine wpAny_bind (wpAny_mono h (fun ov s₁ h₁ => wpAny_bind (wpAny_standAt ?_)) fun _ _ e => e)
  have hform := plain_form hp hn env pos
  have hpos : methodCallPos true o env apos pos = pure pos := by unfold methodCallPos; simp [hl]
  unfold methodCall
  rw [hform]
  refine wpAny_bind (wpAny_holding (wpAny_mono (h₁ _) (fun p s₂ h₂ => ?_) fun _ _ e => e))
  exact wpAny_bind (wpAny_of_eq hpos h₂)
structure MethAt (c : KB) (name : Str) (f : Addr) : Prop where
  find : findIn c.K (.ref c.C) name = some (some (.ref f))
  ty : typeIn c.K (.ref f) = some (.type "function")
  fn : IsFnAt c f
theorem tr_meth {o : Expr} {name : Str} {apos pos : Pos} {args : List Expr} {i : Nat} {r : PRec} {f : Addr} {ps : List PV} {res : PV} {pl' : List PRec}
    (ho : TrE c k sc σ o (.obj i) σ₁) (hr : σ₁.pl[i]? = some r) (hm : MethAt c name f) (hno : r.lookup name = none)
    (hp : PlainArgs args) (ha : TrArgs c k sc σ₁ args ps σ₂) (hs : FnSpec c k f (.obj i :: ps) σ₂.pl res pl')
    (hb : ∀ env, attributeBase o name env (eval o env) = eval o env) (hn : args.length < 30) (hl : (apos.endLine == pos.line) = true) :
    TrE c k sc σ (.Call (.Attribute o name apos) args [] pos) res { σ₂ with pl := pl' } := by
  intro A env g s Q E L V F hQ
  refine call_attr hb hp hn hl (ho A env g s _ E L V F fun v g' s' N rv pl0 => ?_)
  obtain ⟨a, d, es, n, e1, e2, had, hd, I, rd, nd, le⟩ := N.sim.gs.inst hr
  cases id rv with
  | obj e =>
    rw [e1] at e; cases e
    refine method_fn N.sim.gs.KIn I N.sim.gs.ok.cls.ga N.sim.gs.ok.cls.gat hm.find hm.ty (by show (lookIn name (dictOf es n)).map _ = _; rw [lookIn_dict, getL_none rd hno]; rfl) ?_
    obtain ⟨of, fd, hof, hfd⟩ := hm.fn
    refine Calls.callWith_function (o := of) (fd := fd) (evalArgs_tr hp ha L V N.sim fun vs g'' s'' N' R => ⟨⟨N'.sim.gs.heap0 _ _ hof, hfd⟩, ?_⟩)
    exact call_fn hs L N'.sim (.cons (rv.le N'.le) R) fun v' g3 s3 N3 r' => hQ v' g3 s3 ((N.trans N').trans N3) r'
theorem tr_assign_attr {o e : Expr} {x : Str} {p' pos : Pos} {p : PV} {i : Nat} {r : PRec} (he : TrE c k sc σ e p σ₁) (ho : TrE c k sc σ₁ o (.obj i) σ₂) (hr : σ₂.pl[i]? = some r) (hx : x ∈ attrNames) (hlen : r.length < 50)
    (hs : ∀ env : Env, swapsWith e (some (.Attribute o x p')) pos.line env = pure false) : TrS c k sc σ (.Assign [.Attribute o x p'] e pos) .next { σ₂ with pl := σ₂.pl.set i (putA x p r) } := by
  intro A env g s Q E L V F hQ
  refine plainObj_wpAny_Assign_Attribute (he A env g s _ E L V F fun v g' s' N rv => ?_) (hs env)
  refine ho A env g' s' _ E L V N.sim fun ov g'' s'' N' ro => ?_
  exact set_attr N'.sim ro hr hx (rv.le N'.le) hlen fun s3 F3 => hQ _ g'' s3 (N.le.trans N'.le) F3 trivial
theorem tr_expr' {e : Expr} {pos : Pos} {p : PV} (h : TrE c k sc σ e p σ₁) (hs : ∀ env : Env, swapsWith e none pos.line env = pure false) : TrS c k sc σ (.Expr e pos) .next σ₁ :=
  tr_expr h fun env hk => ⟨by simp [interactive, hk], hs env⟩
theorem FSim.setOwn {i : Nat} {x : Str} {kd : NameKind} {b : Bind} {a : Addr} (F : FSim c sc env σ g s) (hv : σ.vs[i]? = some (some b)) (hown : b.own = true) (hx : sc.names[i]? = some (x, kd)) (hs : SlotAt env s.heap x kd (.ref a)) {b' : Bind}
    (K : Heap.ExtBut a s.heap s'.heap) (hg : s'.gens = s.gens) (ho : s'.os = s.os) (hb' : BindOk c.w env g s'.heap b' (.ref a)) (kind : (∃ its n, s.heap.get? a = some (listOf its n)) ∨ (∃ es n, s.heap.get? a = some (dictOf es n)))
    (hbv : BindOk c.w env g s.heap b (.ref a)) : FSim c sc env (σ.set i b') g s' := by
  have mu : Mut g a := by
    cases b with
    | val p => cases hown
    | lst xs => obtain ⟨a', its, n, e1, e2, r, l, m⟩ := hbv; cases e1; exact m
    | dct kvs => obtain ⟨a', es, n, e1, e2, r, nd, l, m, ne⟩ := hbv; cases e1; exact m
  have nel : a ≠ env.locals := fun q => by
    cases b with
    | val p => cases hown
    | lst xs =>
      obtain ⟨a', its, n, e1, e2, _⟩ := hbv; cases e1
      obtain ⟨m, hm⟩ := F.fs.ns
      rw [q] at e2; exact Ns.not_list hm e2
    | dct kvs => obtain ⟨a', es, n, e1, e2, r, nd, l, m, ne⟩ := hbv; cases e1; exact ne q
  have cellne : ∀ {d v}, s.heap.IsCell d v → d ≠ a := fun {d v} hc q => by
    obtain ⟨o, e, dd⟩ := hc
    subst q
    rcases kind with ⟨its, n, e'⟩ | ⟨es, n, e'⟩ <;> · rw [e] at e'; cases e'; cases dd
  have slotK : ∀ {y ky v}, SlotAt env s.heap y ky v → SlotAt env s'.heap y ky v := fun {y ky v} h => by
    cases ky with
    | «local» => obtain ⟨m, ⟨o, es, ep, e, r⟩, e1⟩ := h; exact ⟨m, ⟨o, es, ep, K _ _ (Ne.symm nel) e, r⟩, e1⟩
    | cell => obtain ⟨d, hd, hc⟩ := h; obtain ⟨o, e, dd⟩ := id hc; exact ⟨d, hd, o, K _ _ (cellne hc) e, dd⟩
    | free => obtain ⟨d, hd, hc⟩ := h; obtain ⟨o, e, dd⟩ := id hc; exact ⟨d, hd, o, K _ _ (cellne hc) e, dd⟩
    | _ => exact h.elim
  have ownb' : b'.own = true := by
    cases b' with
    | val p =>
      exfalso
      have r : Rep c.w g (.ref a) p := hb'
      cases r with
      | list e _ _ => rw [mu.1] at e; cases e
      | tup e _ _ => rw [mu.1] at e; cases e
      | dict _ e _ _ _ => rw [mu.1] at e; cases e
      | obj e =>
        obtain ⟨j, hj⟩ : ∃ j : Nat, g.φ[j]? = some a := ⟨_, e⟩
        have hlt : j < σ.pl.length := F.gs.lenφ ▸ (List.getElem?_eq_some_iff.mp hj).1
        obtain ⟨a', d, es, n, f1, f2, f3, _⟩ := F.gs.pls j σ.pl[j] (by simp [hlt])
        rw [hj] at f1; cases f1
        rw [mu.1] at f3; cases f3
    | _ => rfl
  refine ⟨F.gs.touch mu K hg ho, ?_⟩
  refine ⟨?_, F.fs.nsm, fun y hy => ?_, F.fs.apart, fun j b2 hj => ?_, ?_⟩
  · obtain ⟨m, o, es, ep, e, r⟩ := F.fs.ns
    exact ⟨m, o, es, ep, K _ _ (Ne.symm nel) e, r⟩
  · obtain ⟨d, v, hd, hc, m⟩ := F.fs.cell y hy
    obtain ⟨o, e, dd⟩ := id hc
    exact ⟨d, v, hd, ⟨o, K _ _ (cellne hc) e, dd⟩, m⟩
  · rcases get_set_cases hj with ⟨rfl, rfl, _⟩ | ⟨hji, hj'⟩
    · exact ⟨x, kd, _, hx, slotK hs, hb'⟩
    · obtain ⟨y, ky, v, hy, hsy, hby⟩ := F.fs.vars j b2 hj'
      refine ⟨y, ky, v, hy, slotK hsy, ?_⟩
      have hne : b2.own = true → v ≠ .ref a := fun h2 q => by
        subst q
        exact F.fs.owns i j b b2 x y kd ky _ (Ne.symm hji) hv hj' hown h2 hx hy hs hsy
      cases b2 with
      | val p => exact hby
      | lst xs =>
        obtain ⟨a', its, n, e1, e2, r⟩ := hby
        exact ⟨a', its, n, e1, K _ _ (fun q => hne rfl (by rw [e1, q])) e2, r⟩
      | dct xs =>
        obtain ⟨a', its, n, e1, e2, r⟩ := hby
        exact ⟨a', its, n, e1, K _ _ (fun q => hne rfl (by rw [e1, q])) e2, r⟩
  · intro p q bp bq zp zq kp kq w hpq hp hq op oq np nq sp sq
    have old : ∀ {j : Nat} {bj : Bind}, (σ.set i b').vs[j]? = some (some bj) → bj.own = true → ∃ b0, σ.vs[j]? = some (some b0) ∧ b0.own = true := fun {j bj} hj oj => by
      rcases get_set_cases hj with ⟨rfl, rfl, _⟩ | ⟨_, hj'⟩
      · exact ⟨b, hv, hown⟩
      · exact ⟨bj, hj', oj⟩
    obtain ⟨b1, h1, o1⟩ := old hp op
    obtain ⟨b2, h2, o2⟩ := old hq oq
    obtain ⟨y1, k1, v1, e1, s1, _⟩ := F.fs.vars p b1 h1
    obtain ⟨y2, k2, v2, e2, s2, _⟩ := F.fs.vars q b2 h2
    rw [np] at e1; cases e1
    rw [nq] at e2; cases e2
    have t1 := SlotAt.eq (slotK s1) sp
    have t2 := SlotAt.eq (slotK s2) sq
    subst t1; subst t2
    exact F.fs.owns p q b1 b2 zp zq kp kq _ hpq h1 h2 o1 o2 np nq s1 s2
theorem own_method {x : Str} {xp apos pos : Pos} {name : Str} {id : String} {args : List Expr} {i : Nat} {kd : NameKind} {xs0 xs : List PV} {ps : List PV} {A : Around} {Q : Value → Shared → Prop} {E : Value → Shared → Prop}
    (hi : vloc sc x = some (i, kd)) (h0 : σ.vs[i]? = some (some (.lst xs0))) (hp : PlainArgs args) (ha : TrArgs c k sc σ args ps σ₁) (h1 : σ₁.vs[i]? = some (some (.lst xs))) (slot : Slot "list" name id) (hty : typeOf (.builtin id) = pure (.type "method_descriptor"))
    (hl : (apos.endLine == pos.line) = true) (hn : args.length < 30) (L : Lim k A) (V : EnvSc env sc) (F : FSim c sc env σ g s)
    (h : ∀ a its n vs g' s', Next c sc env σ₁ g s g' s' → SlotAt env s'.heap x kd (.ref a) → s'.heap.get? a = some (listOf its n) → Reps c.w g' its.toList xs → its.size ≤ sizeLine → Mut g' a → Reps c.w g' vs ps → wpAny (model c.prog c.w) A (call (.builtin id) (.ref a :: vs)) Q E s') :
    wpAny (model c.prog c.w) A (eval (.Call (.Attribute (.Name x xp) name apos) args [] pos) env) Q E s := by
  refine call_attr (fun _ => rfl) hp hn hl (load_var V F hi h0 fun v hs hb pl0 => ?_)
  obtain ⟨a, its, n, rfl, e, r, l, m⟩ := hb
  have hT : s.TypeIs (.ref a) "list" := ⟨_, e, rfl⟩
  refine getMethod_builtin hT PySem.F.plainAttrs_list slot hty (fun a' q => by cases q; exact ⟨_, e, rfl⟩) ?_
  have hplain : (backTo pos (starEach args env)).any (·.1) = false := by
    rw [hp env]
    rw [List.any_eq_false]
    intro y hy
    simp only [backTo, List.map_map, List.mem_map, Function.comp] at hy
    obtain ⟨z, _, rfl⟩ := hy
    simp
  refine Calls.callWith_builtin hplain (evalArgs_tr hp ha L V F fun vs g' s' N R => ?_)
  obtain ⟨y, ky, v', e', hs', hb'⟩ := N.sim.fs.vars i _ h1
  rw [vloc_get hi] at e'; cases e'
  have hs2 := N.stay.slot hs
  have := SlotAt.eq hs' hs2
  subst this
  obtain ⟨a', its', n', e1, e2, r', l', m'⟩ := hb'
  cases e1
  exact h a its' n' vs g' s' N hs2 e2 r' l' m' R
end
end RM
end
noncomputable section
open PySem.SeqAt
namespace RM
section
variable {prog : Program} {w : World} {A : Around} {E : Value → Shared → Prop} {s : Shared} {K : Frag} {C : Addr} {x y : Addr} {ox oy : Obj} {odx ody : Option Obj}
theorem checkSlotP {id name : String} {rest : List Value} {Q : Unit → Shared → Prop} (X : K.In s.heap) (hc : ClsOk K C) (I : W.InstAt s.heap x ox C odx) (hk : builtinKind id = some .slot) (hs : splitId id = some ("object", name)) (ha : argsOk id ⟨.ref x :: rest, []⟩) (hq : Q () s) :
    wpAny (model prog w) A (checkBuiltinCall id ⟨.ref x :: rest, []⟩) Q E s := by
  simp only [checkBuiltinCall, hk, hs]
  refine wpAny_bind ?_
  unfold isInstance
  refine wpAny_bind (I.type.here ((looks_subIn X hc.sub).here ?_))
  simp only [Bool.not_true, Bool.false_eq_true, if_false]
  first
    | (cases hsig : Manifest.signature? id with
       | none => exact wpAny_pure hq
       | some sig =>
         simp only [argsOk, hsig] at ha
         have h2 : Bind.checkArgs id sig ⟨.ref x :: rest, []⟩ = pure () := ha
         show wpAny _ _ (Bind.checkArgs id sig ⟨.ref x :: rest, []⟩) Q E _
         rw [h2]; exact wpAny_pure hq)
    | (refine wpAny_pure ?_
       cases hsig : Manifest.signature? id with
       | none => exact wpAny_pure hq
       | some sig =>
         simp only [argsOk, hsig] at ha
         have h2 : Bind.checkArgs id sig ⟨.ref x :: rest, []⟩ = pure () := ha
         show wpAny _ _ (Bind.checkArgs id sig ⟨.ref x :: rest, []⟩) Q E _
         rw [h2]; exact wpAny_pure hq)
theorem specialP {id : String} {name : Str} {args : List Value} {Q : Option Value → Shared → Prop} (X : K.In s.heap) (I : W.InstAt s.heap x ox C odx) (hf : findIn K (.ref C) name = some (some (.builtin id))) (S : Slot "object" name id)
    (h : wpAny (model prog w) A (call (.builtin id) (.ref x :: args)) (fun v => Q (some v)) E s) : wpAny (model prog w) A (callSpecialIfBound? (.ref x) name args) Q E s := by
  simp only [callSpecialIfBound?, bindSpecialIfBound?]
  refine wpAny_holding (wpAny_bind (wpAny_bind (wpAny_bind (I.type.here ((looks_findIn X hf).here ?_)))))
  simp only [S.bind]
  refine wpAny_bind (wpAny_askSetting (wpAny_ite ?_))
  have fin : wpAny (model prog w) A (call (.builtin id) ([.ref x] ++ args) >>= fun v => pure (some v)) Q E s :=
    wpAny_bind (wpAny_mono h (fun v s' h' => wpAny_pure h') fun _ _ h' => h')
  split
  · exact wpAny_bind (wpAny_pure (wpAny_pure (by exact fin)))
  · exact wpAny_tryCatch (wpAny_bind (wpAny_pure (wpAny_pure (by exact fin))))
theorem eqP_same {Q : Option Value → Shared → Prop} (X : K.In s.heap) (hc : ClsOk K C) (I : W.InstAt s.heap x ox C odx) (hq : Q (some (.bool true)) s) : wpAny (model prog w) A (callSpecialIfBound? (.ref x) "__eq__" [.ref x]) Q E s :=
  specialP (id := "object.__eq__") (name := Str.ofString "__eq__") X I hc.eq PySem.F.cmp_object.eq (wpAny_call (codeAny_call_builtin (id := "object.__eq__") PySem.F.cmp_object.eq.plain PySem.F.cmpEntry_eq
    (checkSlotP (id := "object.__eq__") (name := "__eq__") X hc I PySem.F.cmpKind_eq PySem.F.cmpSplit_eq (PySem.F.cmpArgs_eq _ _) (objEq_entry_same hq))))
theorem notTuple (I : W.InstAt s.heap x ox C odx) : ox.cls ≠ .type "tuple" := by rw [I.cls]; intro e; cases e
theorem eqP_other {Q : Option Value → Shared → Prop} (X : K.In s.heap) (hc : ClsOk K C) (I : W.InstAt s.heap x ox C odx) (J : W.InstAt s.heap y oy C ody) (hxy : x ≠ y) (hq : Q (some .notImplemented) s) :
    wpAny (model prog w) A (callSpecialIfBound? (.ref x) "__eq__" [.ref y]) Q E s :=
  specialP (id := "object.__eq__") (name := Str.ofString "__eq__") X I hc.eq PySem.F.cmp_object.eq (wpAny_call (codeAny_call_builtin (id := "object.__eq__") PySem.F.cmp_object.eq.plain PySem.F.cmpEntry_eq
    (checkSlotP (id := "object.__eq__") (name := "__eq__") X hc I PySem.F.cmpKind_eq PySem.F.cmpSplit_eq (PySem.F.cmpArgs_eq _ _) (objEq_entry_other hxy I.at_ J.at_ (notTuple I) hq))))
theorem neP_same {Q : Option Value → Shared → Prop} (X : K.In s.heap) (hc : ClsOk K C) (I : W.InstAt s.heap x ox C odx) (hu : A.units + 1 < cLine) (hq : Q (some (.bool false)) s) : wpAny (model prog w) A (callSpecialIfBound? (.ref x) "__ne__" [.ref x]) Q E s := by
  refine specialP (id := "object.__ne__") (name := Str.ofString "__ne__") X I hc.ne PySem.F.cmp_object.ne (wpAny_call (codeAny_call_builtin (id := "object.__ne__") PySem.F.cmp_object.ne.plain PySem.F.cmpEntry_ne
    (checkSlotP (id := "object.__ne__") (name := "__ne__") X hc I PySem.F.cmpKind_ne PySem.F.cmpSplit_ne (PySem.F.cmpArgs_ne _ _) ?_)))
  unfold Builtin.«object.__ne__»
  have hu' : A.in1.units < cLine := hu
  repeat (first | with_reducible refine wpAny_cRoomFor hu' ?_ | with_reducible refine eqP_same X hc I ?_ | wp_step)
  exact hq
theorem neP_other {Q : Option Value → Shared → Prop} (X : K.In s.heap) (hc : ClsOk K C) (I : W.InstAt s.heap x ox C odx) (J : W.InstAt s.heap y oy C ody) (hxy : x ≠ y) (hu : A.units + 1 < cLine) (hq : Q (some .notImplemented) s) :
    wpAny (model prog w) A (callSpecialIfBound? (.ref x) "__ne__" [.ref y]) Q E s := by
  refine specialP (id := "object.__ne__") (name := Str.ofString "__ne__") X I hc.ne PySem.F.cmp_object.ne (wpAny_call (codeAny_call_builtin (id := "object.__ne__") PySem.F.cmp_object.ne.plain PySem.F.cmpEntry_ne
    (checkSlotP (id := "object.__ne__") (name := "__ne__") X hc I PySem.F.cmpKind_ne PySem.F.cmpSplit_ne (PySem.F.cmpArgs_ne _ _) ?_)))
  unfold Builtin.«object.__ne__»
  have hu' : A.in1.units < cLine := hu
  repeat (first | with_reducible refine wpAny_cRoomFor hu' ?_ | with_reducible refine eqP_other X hc I J hxy ?_ | wp_step)
  exact hq
theorem richEqP_other {Q : Value → Shared → Prop} (X : K.In s.heap) (hc : ClsOk K C) (I : W.InstAt s.heap x ox C odx) (J : W.InstAt s.heap y oy C ody) (hxy : x ≠ y) (hu : A.units < cLine) (hq : Q (.bool false) s) :
    wpAny (model prog w) A (richCompare .Eq (.ref x) (.ref y)) Q E s := by
  unfold richCompare
  simp only [oneThing_ref]
  refine wpAny_holding (wpAny_bind (wpAny_cRoomFor hu ?_))
  refine wpAny_bind (I.type.here (wpAny_bind (J.type.here ?_)))
  simp only [bne_self_eq_false, Bool.false_eq_true, if_false]
  refine wpAny_bind (wpAny_pure ?_)
  simp only [Bool.false_eq_true, if_false, Bool.not_false, if_true]
  refine wpAny_bind (m := tryCompare _ _ _) ?_
  unfold tryCompare
  refine wpAny_bind (eqP_other X hc I J hxy (wpAny_pure ?_))
  refine wpAny_bind (m := tryCompare _ _ _) ?_
  unfold tryCompare
  refine wpAny_bind (eqP_other X hc J I (Ne.symm hxy) (wpAny_pure ?_))
  refine wpAny_bind (wpAny_rule ?_)
  exact wpAny_bind (wpAny_isSame_ref_other hxy I.at_ J.at_ (notTuple I) (wpAny_pure hq))
theorem richNeP_other {Q : Value → Shared → Prop} (X : K.In s.heap) (hc : ClsOk K C) (I : W.InstAt s.heap x ox C odx) (J : W.InstAt s.heap y oy C ody) (hxy : x ≠ y) (hu : A.units + 1 < cLine) (hq : Q (.bool true) s) :
    wpAny (model prog w) A (richCompare .NotEq (.ref x) (.ref y)) Q E s := by
  unfold richCompare
  simp only [oneThing_ref]
  refine wpAny_holding (wpAny_bind (wpAny_cRoomFor (Nat.lt_of_succ_lt hu) ?_))
  refine wpAny_bind (I.type.here (wpAny_bind (J.type.here ?_)))
  simp only [bne_self_eq_false, Bool.false_eq_true, if_false]
  refine wpAny_bind (wpAny_pure ?_)
  simp only [Bool.false_eq_true, if_false, Bool.not_false, if_true]
  refine wpAny_bind (m := tryCompare _ _ _) ?_
  unfold tryCompare
  refine wpAny_bind (neP_other X hc I J hxy hu (wpAny_pure ?_))
  refine wpAny_bind (m := tryCompare _ _ _) ?_
  unfold tryCompare
  refine wpAny_bind (neP_other X hc J I (Ne.symm hxy) hu (wpAny_pure ?_))
  refine wpAny_bind (wpAny_rule ?_)
  exact wpAny_bind (wpAny_isSame_ref_other hxy I.at_ J.at_ (notTuple I) (wpAny_pure hq))
theorem richNeP_same {Q : Value → Shared → Prop} (X : K.In s.heap) (hc : ClsOk K C) (I : W.InstAt s.heap x ox C odx) (hu : A.units + 1 < cLine) (hq : Q (.bool false) s) :
    wpAny (model prog w) A (richCompare .NotEq (.ref x) (.ref x)) Q E s := by
  unfold richCompare
  simp only [oneThing_ref]
  refine wpAny_holding (wpAny_bind (wpAny_cRoomFor (Nat.lt_of_succ_lt hu) ?_))
  refine wpAny_bind (I.type.here (wpAny_bind (I.type.here ?_)))
  simp only [bne_self_eq_false, Bool.false_eq_true, if_false]
  refine wpAny_bind (wpAny_pure ?_)
  simp only [Bool.false_eq_true, if_false, Bool.not_false, if_true]
  refine wpAny_bind (m := tryCompare _ _ _) ?_
  unfold tryCompare
  refine wpAny_bind (neP_same X hc I hu (wpAny_pure ?_))
  exact wpAny_pure hq
end
structure EqEmb {α : Type} [DecidableEq α] (c : KB) (d : Nat) (emb : α → PV) : Prop where
  inj : ∀ {pl g s}, GS c pl g s → ∀ {a b : α} {v : Value}, Rep c.w g v (emb a) → Rep c.w g v (emb b) → a = b
  at' : ∀ {pl g s}, GS c pl g s → ∀ {A : Around} {a b : α} {v v' : Value}, A.units + d < cLine → Rep c.w g v (emb a) → Rep c.w g v' (emb b) → EqAt A s v v' (decide (a = b))
section
variable {c : KB} {k : Nat} {sc : Scope} {σ σ' σ₁ σ₂ σ₃ : St} {pl : List PRec} {g g' : G} {s s' : Shared} {env : Env}
theorem GS.instOf (X : GS c pl g s) {i : Nat} {v : Value} (r : Rep c.w g v (.obj i)) : ∃ a d es n, v = .ref a ∧ g.φ[i]? = some a ∧ g.dx[i]? = some d ∧ g.fz a = some (instObj c.C d) ∧ W.InstAt s.heap a (instObj c.C d) c.C (some (dictOf es n)) := by
  cases r with
  | obj e =>
    have hlt : i < pl.length := X.lenφ ▸ (List.getElem?_eq_some_iff.mp e).1
    obtain ⟨a, d, es, n, e1, e2, e3, e4, I, _⟩ := X.inst (i := i) (r := pl[i]) (by simp [hlt])
    obtain ⟨a', d', es', n', f1, f2, f3, f4, _⟩ := X.pls i pl[i] (by simp [hlt])
    rw [e] at e1; cases e1
    rw [e] at f1; cases f1
    rw [e2] at f2; cases f2
    exact ⟨_, d, es, n, rfl, e, e2, f3, I⟩
theorem GS.obj_inj (X : GS c pl g s) {i j : Nat} {v : Value} (ri : Rep c.w g v (.obj i)) (rj : Rep c.w g v (.obj j)) : i = j := by
  obtain ⟨a, d, es, n, rfl, e1, e2, e3, _⟩ := X.instOf ri
  obtain ⟨a', d', es', n', q, f1, f2, f3, _⟩ := X.instOf rj
  cases q
  rw [e3] at f3
  have : d = d' := by injection f3 with f3; injection f3 with _ h; injection h
  subst this
  have hi : i < g.dx.length := (List.getElem?_eq_some_iff.mp e2).1
  exact (List.getElem?_inj hi X.dxn).mp (e2.trans f2.symm)
theorem eqEmb_obj : EqEmb c 1 PV.obj where
  inj := fun {pl g s} X {a b v} ra rb => X.obj_inj ra rb
  at' := fun {pl g s} X {A a b v v'} hu ra rb => by
    obtain ⟨x, d, es, n, rfl, e1, e2, e3, I⟩ := X.instOf ra
    obtain ⟨y, d', es', n', rfl, f1, f2, f3, J⟩ := X.instOf rb
    by_cases hxy : x = y
    · subst hxy
      have := X.obj_inj ra rb
      subst this
      simpa using EqAt.same _
    · have hab : a ≠ b := fun q => by subst q; rw [e1] at f1; cases f1; exact hxy rfl
      simp only [hab, decide_false]
      exact EqAt.of_refs hxy fun prog w E Q hq => richEqP_other X.KIn X.ok.cls I J hxy (by omega) hq
theorem eqEmb_str {α : Type} [DecidableEq α] (f : α → Str) (hf : ∀ a b, f a = f b → a = b) : EqEmb c 0 (fun a : α => PV.str (f a)) where
  inj := fun {pl g s} X {a b v} ra rb => by
    generalize hp : PV.str (f a) = p at ra
    generalize hq : PV.str (f b) = q at rb
    cases ra <;> cases hp
    cases rb; injection hq with hq; exact hf _ _ hq.symm
  at' := fun {pl g s} X {A a b v v'} hu ra rb => by
    generalize hp : PV.str (f a) = p at ra
    generalize hq : PV.str (f b) = q at rb
    cases ra <;> cases hp
    cases rb <;> cases hq
    have : decide (a = b) = (f a == f b) := by
      by_cases h : a = b
      · subst h; simp
      · have : f a ≠ f b := fun q => h (hf _ _ q)
        simp [h, this]
    rw [this]; exact EqAt.str_str _ _ _ _
theorem eqEmb_int : EqEmb c 0 PV.int where
  inj := fun {pl g s} X {a b v} ra rb => by cases ra; cases rb; rfl
  at' := fun {pl g s} X {A a b v v'} hu ra rb => by
    cases ra; cases rb
    have : decide (a = b) = (a == b) := by by_cases h : a = b <;> simp [h]
    rw [this]; exact EqAt.int_int _ _ _ _
theorem Reps.map_inj {α : Type} [DecidableEq α] {d : Nat} {emb : α → PV} (h : EqEmb c d emb) (X : GS c pl g s) : ∀ {l l' : List α} {vs : List Value}, Reps c.w g vs (l.map emb) → Reps c.w g vs (l'.map emb) → l = l'
  | [], [], _, _, _ => rfl
  | [], b :: l', _, r, r' => by cases r; cases r'
  | a :: l, [], _, r, r' => by cases r'; cases r
  | a :: l, b :: l', _, .cons ra r, .cons rb r' => by rw [h.inj X ra rb, Reps.map_inj h X r r']
theorem IsList_of {h : Heap} {a : Addr} {its : Array Value} {n : Nat} (e : h.get? a = some (listOf its n)) : h.IsList a its := ⟨_, e, rfl, n, rfl⟩
theorem IsTuple_of {h : Heap} {a : Addr} {its : Array Value} {n : Nat} (e : h.get? a = some (tupOf its n)) : h.IsTuple a its := ⟨_, e, rfl, n, rfl⟩
theorem eqAt_all {α : Type} [DecidableEq α] {d : Nat} {emb : α → PV} (h : EqEmb c d emb) (X : GS c pl g s) {A : Around} (hu : A.units + d < cLine) {l l' : List α} {vs vs' : Array Value} (r : Reps c.w g vs.toList (l.map emb)) (r' : Reps c.w g vs'.toList (l'.map emb)) :
    ∀ j (h1 : j < vs.size) (h2 : j < vs'.size), EqAt A s vs[j] vs'[j] (decide (l[j]? = l'[j]?)) := by
  intro j h1 h2
  obtain ⟨p, hp, rp⟩ := r.getV (i := j) (v := vs[j]) (by simp [h1])
  obtain ⟨p', hp', rp'⟩ := r'.getV (i := j) (v := vs'[j]) (by simp [h2])
  rw [List.getElem?_map] at hp hp'
  obtain ⟨a, ha, rfl⟩ := Option.map_eq_some_iff.mp hp
  obtain ⟨b, hb, rfl⟩ := Option.map_eq_some_iff.mp hp'
  rw [ha, hb]
  have : decide (some a = some b) = decide (a = b) := by simp
  rw [this]
  exact h.at' X hu rp rp'
theorem all_range_eq {α : Type} [DecidableEq α] : ∀ {l l' : List α} {n : Nat}, l.length = n → l'.length = n → ((List.range n).all fun j => decide (l[j]? = l'[j]?)) = decide (l = l') := by
  intro l l' n h h'
  by_cases q : l = l'
  · subst q; simp
  · simp only [q, decide_false]
    rw [List.all_eq_false]
    apply Classical.byContradiction
    intro hn
    apply q
    apply List.ext_getElem?
    intro j
    by_cases hj : j < n
    · apply Classical.byContradiction
      intro hne
      exact hn ⟨j, List.mem_range.mpr hj, by simpa using hne⟩
    · rw [List.getElem?_eq_none (by omega), List.getElem?_eq_none (by omega)]
theorem rcEq_list {α : Type} [DecidableEq α] {d : Nat} {emb : α → PV} (h : EqEmb c d emb) (X : GS c pl g s) {A : Around} (hu : A.units + d + 1 < cLine) {l l' : List α} {a b : Addr} {vs vs' : Array Value} {n n' : Nat} (e : s.heap.get? a = some (listOf vs n)) (e' : s.heap.get? b = some (listOf vs' n'))
    (r : Reps c.w g vs.toList (l.map emb)) (r' : Reps c.w g vs'.toList (l'.map emb)) : RcAt A s (.ref a) (.ref b) (decide (l = l')) := by
  have hl : vs.size = l.length := by have := r.length; simpa using this
  have hl' : vs'.size = l'.length := by have := r'.length; simpa using this
  by_cases hsz : vs.size = vs'.size
  · have := RcAt.lists (IsList_of e) (IsList_of e') hsz (A := A) (by omega) (eqAt_all h X (A := A.in1) (by show A.units + 1 + d < cLine; omega) r r')
    rwa [all_range_eq (by omega) (by omega)] at this
  · have hne : l ≠ l' := fun q => by subst q; exact hsz (by omega)
    simp only [hne, decide_false]
    exact RcAt.lists_lengths (IsList_of e) (IsList_of e') (by simpa using hsz) (by omega)
theorem rcNe_list {α : Type} [DecidableEq α] {d : Nat} {emb : α → PV} (h : EqEmb c d emb) (X : GS c pl g s) {A : Around} (hu : A.units + d + 1 < cLine) {l l' : List α} {a b : Addr} {vs vs' : Array Value} {n n' : Nat} (e : s.heap.get? a = some (listOf vs n)) (e' : s.heap.get? b = some (listOf vs' n'))
    (r : Reps c.w g vs.toList (l.map emb)) (r' : Reps c.w g vs'.toList (l'.map emb)) : RcNeAt A s (.ref a) (.ref b) (!decide (l = l')) := by
  have hl : vs.size = l.length := by have := r.length; simpa using this
  have hl' : vs'.size = l'.length := by have := r'.length; simpa using this
  by_cases hsz : vs.size = vs'.size
  · have := RcNeAt.lists (IsList_of e) (IsList_of e') hsz (A := A) (by omega) (eqAt_all h X (A := A.in1) (by show A.units + 1 + d < cLine; omega) r r')
    rwa [all_range_eq (by omega) (by omega)] at this
  · have hne : l ≠ l' := fun q => by subst q; exact hsz (by omega)
    simp only [hne, decide_false, Bool.not_false]
    exact RcNeAt.lists_lengths (IsList_of e) (IsList_of e') (by simpa using hsz) (by omega)
theorem eqEmb_list {α : Type} [DecidableEq α] {d : Nat} {emb : α → PV} (h : EqEmb c d emb) : EqEmb c (d + 1) (fun l : List α => PV.list (l.map emb)) where
  inj := fun {pl g s} X {a b v} ra rb => by
    cases ra with
    | list e r l =>
      cases rb with
      | list e' r' l' => rw [e] at e'; cases e'; exact Reps.map_inj h X r r'
  at' := fun {pl g s} X {A a b v v'} hu ra rb => by
    cases id ra with
    | list e r l =>
      rename_i x its n
      cases id rb with
      | list e' r' l' =>
        rename_i y its' n'
        by_cases hxy : x = y
        · subst hxy
          rw [e] at e'; cases e'
          have := Reps.map_inj h X r r'
          subst this
          simpa using EqAt.same _
        · exact EqAt.of_refs hxy (rcEq_list h X (by omega) (X.fz _ _ e) (X.fz _ _ e') r r')
theorem eqEmb_pair {α : Type} [DecidableEq α] {d : Nat} {emb : α → PV} (h : EqEmb c d emb) : EqEmb c (d + 1) (fun p : α × α => PV.tup [emb p.1, emb p.2]) where
  inj := fun {pl g s} X {a b v} ra rb => by
    cases ra with
    | tup e r l =>
      cases rb with
      | tup e' r' l' =>
        rw [e] at e'; cases e'
        have := Reps.map_inj (l := [a.1, a.2]) (l' := [b.1, b.2]) h X r r'
        obtain ⟨a1, a2⟩ := a
        obtain ⟨b1, b2⟩ := b
        simpa using this
  at' := fun {pl g s} X {A a b v v'} hu ra rb => by
    cases id ra with
    | tup e r l =>
      rename_i x its n
      cases id rb with
      | tup e' r' l' =>
        rename_i y its' n'
        obtain ⟨a1, a2⟩ := a
        obtain ⟨b1, b2⟩ := b
        have r0 : Reps c.w g its.toList ([a1, a2].map emb) := r
        have r0' : Reps c.w g its'.toList ([b1, b2].map emb) := r'
        have hl : its.size = 2 := by have := r0.length; simpa using this
        have hl' : its'.size = 2 := by have := r0'.length; simpa using this
        have hdec : decide ((a1, a2) = (b1, b2)) = decide ([a1, a2] = [b1, b2]) := by simp
        rw [hdec]
        by_cases hxy : x = y
        · subst hxy
          rw [e] at e'; cases e'
          have := Reps.map_inj h X r0 r0'
          rw [this]
          simpa using EqAt.same _
        · refine EqAt.of_refs hxy ?_
          have := RcAt.tuples (IsTuple_of (X.fz _ _ e)) (IsTuple_of (X.fz _ _ e')) (A := A) (by omega) (eqAt_all h X (A := A.in1) (by show A.units + 1 + d < cLine; omega) r0 r0')
          rw [hl, hl'] at this
          have h3 : ((List.range (min 2 2)).all fun j => decide ([a1, a2][j]? = [b1, b2][j]?)) = decide ([a1, a2] = [b1, b2]) := all_range_eq rfl rfl
          rw [h3] at this
          simpa using this
end
end RM
end
noncomputable section
open PySem.SeqAt
namespace RM
def Sees (w : World) (g : G) (h : Heap) (v : Value) (p : PV) : Prop :=
  Rep w g v p ∨ ∃ xs a its n, p = .list xs ∧ v = .ref a ∧ h.get? a = some (listOf its n) ∧ Reps w g its.toList xs ∧ its.size ≤ sizeLine
section
variable (c : KB) (k : Nat) (sc : Scope)
def TrV (σ : St) (e : Expr) (p : PV) (σ' : St) : Prop :=
  ∀ (A : Around) (env : Env) (g : G) (s : Shared) (Q : Value → Shared → Prop) (E : Value → Shared → Prop), Lim k A → EnvSc env sc → FSim c sc env σ g s →
    (∀ v g' s', Next c sc env σ' g s g' s' → Sees c.w g' s'.heap v p → Q v s') → wpAny (model c.prog c.w) A (eval e env) Q E s
def CmpPV (op : CmpOp) (p q : PV) (b : Bool) : Prop :=
  ∀ {pl g s}, GS c pl g s → ∀ {A : Around} {v v' : Value} {Q : Value → Shared → Prop} {E : Value → Shared → Prop}, Lim k A → Sees c.w g s.heap v p → Sees c.w g s.heap v' q → Q (.bool b) s → wpAny (model c.prog c.w) A (compareOp op v v') Q E s
end
section
variable {c : KB} {k : Nat} {sc : Scope} {σ σ' σ₁ σ₂ σ₃ : St} {pl : List PRec} {g g' : G} {s s' : Shared} {env : Env}
theorem Sees.list (X : GS c pl g s) {v : Value} {xs : List PV} (h : Sees c.w g s.heap v (.list xs)) : ∃ a its n, v = .ref a ∧ s.heap.get? a = some (listOf its n) ∧ Reps c.w g its.toList xs ∧ its.size ≤ sizeLine := by
  rcases h with h | ⟨ys, a, its, n, e, rfl, e2, r, l⟩
  · cases h with
    | list e r l => exact ⟨_, _, _, rfl, X.fz _ _ e, r, l⟩
  · cases e; exact ⟨a, its, n, rfl, e2, r, l⟩
theorem Sees.rep {w : World} {h : Heap} {v : Value} {p : PV} (x : Sees w g h v p) (hp : ∀ xs, p ≠ .list xs) : Rep w g v p := by
  rcases x with x | ⟨xs, _, _, _, e, _⟩
  · exact x
  · exact absurd e (hp xs)
theorem Lim.u {A : Around} (L : Lim k A) : A.units + 64 < cLine := by
  have := L.un; have := L.k; show A.units + 64 < 9900; omega
section
variable {α : Type} [DecidableEq α] {d : Nat} {emb : α → PV}
theorem cmp_ne_list (h : EqEmb c d emb) (hd : d ≤ 50) {l l' : List α} : CmpPV c k .NotEq (.list (l.map emb)) (.list (l'.map emb)) (!decide (l = l')) := by
  intro pl g s X A v v' Q E L hv hv' hq
  obtain ⟨a, its, n, rfl, e, r, sz⟩ := hv.list X
  obtain ⟨a', its', n', rfl, e', r', sz'⟩ := hv'.list X
  exact rcNe_list h X (by have := L.u; omega) e e' r r' _ _ _ _ hq
theorem any_rep (h : EqEmb c d emb) (X : GS c pl g s) {A : Around} (hu : A.units + d < cLine) {x : α} {v : Value} (rv : Rep c.w g v (emb x)) {l : List α} {vs : List Value} (r : Reps c.w g vs (l.map emb)) :
    ∃ e : Value → Bool, (∀ y, y ∈ vs → EqAt A s y v (e y)) ∧ vs.any e = decide (x ∈ l) := by
  classical
  refine ⟨fun y => decide (∃ a ∈ l, Rep c.w g y (emb a) ∧ a = x), fun y hy => ?_, ?_⟩
  · obtain ⟨i, hi⟩ := List.getElem?_of_mem hy
    obtain ⟨p, hp, rp⟩ := r.getV hi
    rw [List.getElem?_map] at hp
    obtain ⟨a, ha, rfl⟩ := Option.map_eq_some_iff.mp hp
    have := h.at' X hu rp rv
    have e : decide (∃ a ∈ l, Rep c.w g y (emb a) ∧ a = x) = decide (a = x) := by
      apply decide_eq_decide.mpr
      constructor
      · rintro ⟨b, _, rb, rfl⟩; exact h.inj X rp rb
      · rintro rfl; exact ⟨a, List.mem_of_getElem? ha, rp, rfl⟩
    dsimp only; rw [e]; exact this
  · rw [Bool.eq_iff_iff, List.any_eq_true, decide_eq_true_iff]
    constructor
    · rintro ⟨y, _, hy⟩
      obtain ⟨a, ha, _, rfl⟩ := of_decide_eq_true hy
      exact ha
    · intro hx
      obtain ⟨i, hi⟩ := List.getElem?_of_mem hx
      obtain ⟨y, hy, ry⟩ := r.get (i := i) (p := emb x) (by simp [hi])
      exact ⟨y, List.mem_of_getElem? hy, decide_eq_true ⟨x, hx, ry, rfl⟩⟩
theorem cmp_in_list (h : EqEmb c d emb) (hd : d ≤ 50) {x : α} {l : List α} (hx : ∀ xs, emb x ≠ .list xs) : CmpPV c k .In (emb x) (.list (l.map emb)) (decide (x ∈ l)) := by
  intro pl g s X A v v' Q E L hv hv' hq
  obtain ⟨a, its, n, rfl, e, r, sz⟩ := hv'.list X
  obtain ⟨f, hf, ha⟩ := any_rep h X (A := A.in1) (by have := L.u; show A.units + 1 + d < cLine; omega) (hv.rep hx) r
  refine in_listAt f (IsList_of e) (fun y hy => hf y (by simpa using hy)) ?_
  rw [← Array.any_toList, ha]; exact hq
theorem cmp_notin_tup (h : EqEmb c d emb) (hd : d ≤ 50) {x : α} {l : List α} (hx : ∀ xs, emb x ≠ .list xs) : CmpPV c k .NotIn (emb x) (.tup (l.map emb)) (!decide (x ∈ l)) := by
  intro pl g s X A v v' Q E L hv hv' hq
  cases hv'.rep (by intro xs q; cases q) with
  | tup e r sz =>
    obtain ⟨f, hf, ha⟩ := any_rep h X (A := A.in1) (by have := L.u; show A.units + 1 + d < cLine; omega) (hv.rep hx) r
    refine notIn_tupleAt f (IsTuple_of (X.fz _ _ e)) (fun y hy => hf y (by simpa using hy)) ?_
    rw [← Array.any_toList, ha]; exact hq
theorem cmp_in_listR (h : EqEmb c d emb) (hd : d ≤ 50) {x : α} {l : List α} {A : Around} {v v' : Value} {Q : Value → Shared → Prop} {E : Value → Shared → Prop} (X : GS c pl g s) (L : Lim k A) (hv : Rep c.w g v (emb x)) (hv' : Sees c.w g s.heap v' (.list (l.map emb))) (hq : Q (.bool (decide (x ∈ l))) s) :
    wpAny (model c.prog c.w) A (compareOp .In v v') Q E s := by
  obtain ⟨a, its, n, rfl, e, r, sz⟩ := hv'.list X
  obtain ⟨f, hf, ha⟩ := any_rep h X (A := A.in1) (by have := L.u; show A.units + 1 + d < cLine; omega) hv r
  refine in_listAt f (IsList_of e) (fun y hy => hf y (by simpa using hy)) ?_
  rw [← Array.any_toList, ha]; exact hq
theorem cmp_notin_listR (h : EqEmb c d emb) (hd : d ≤ 50) {x : α} {l : List α} {A : Around} {v v' : Value} {Q : Value → Shared → Prop} {E : Value → Shared → Prop} (X : GS c pl g s) (L : Lim k A) (hv : Rep c.w g v (emb x)) (hv' : Sees c.w g s.heap v' (.list (l.map emb))) (hq : Q (.bool (!decide (x ∈ l))) s) :
    wpAny (model c.prog c.w) A (compareOp .NotIn v v') Q E s := by
  obtain ⟨a, its, n, rfl, e, r, sz⟩ := hv'.list X
  obtain ⟨f, hf, ha⟩ := any_rep h X (A := A.in1) (by have := L.u; show A.units + 1 + d < cLine; omega) hv r
  refine notIn_listAt f (IsList_of e) (fun y hy => hf y (by simpa using hy)) ?_
  rw [← Array.any_toList, ha]; exact hq
end
theorem cmp_eq_nil {xs : List PV} : CmpPV c k .Eq (.list xs) (.list []) xs.isEmpty := by
  intro pl g s X A v v' Q E L hv hv' hq
  obtain ⟨a, its, n, rfl, e, r, sz⟩ := hv.list X
  obtain ⟨a', its', n', rfl, e', r', sz'⟩ := hv'.list X
  have h' : its'.size = 0 := by have := r'.length; simpa using this
  have hl : its.size = xs.length := by have := r.length; simpa using this
  cases xs with
  | nil =>
    have hl0 : its.size = 0 := by simpa using hl
    have := RcAt.lists (A := A) (e := fun _ => true) (IsList_of e) (IsList_of e') (by omega) (by have := L.u; omega) (fun j h1 h2 => by omega)
    rw [hl0] at this
    exact this _ _ _ _ hq
  | cons x xs =>
    have hl1 : its.size = xs.length + 1 := by simpa using hl
    exact RcAt.lists_lengths (A := A) (IsList_of e) (IsList_of e') (by simp; omega) (by have := L.u; omega) _ _ _ _ hq
theorem cmp_ne_nil {xs : List PV} : CmpPV c k .NotEq (.list xs) (.list []) (!xs.isEmpty) := by
  intro pl g s X A v v' Q E L hv hv' hq
  obtain ⟨a, its, n, rfl, e, r, sz⟩ := hv.list X
  obtain ⟨a', its', n', rfl, e', r', sz'⟩ := hv'.list X
  have h' : its'.size = 0 := by have := r'.length; simpa using this
  have hl : its.size = xs.length := by have := r.length; simpa using this
  cases xs with
  | nil =>
    have hl0 : its.size = 0 := by simpa using hl
    have := RcNeAt.lists (A := A) (e := fun _ => true) (IsList_of e) (IsList_of e') (by omega) (by have := L.u; omega) (fun j h1 h2 => by omega)
    rw [hl0] at this
    exact this _ _ _ _ hq
  | cons x xs =>
    have hl1 : its.size = xs.length + 1 := by simpa using hl
    exact RcNeAt.lists_lengths (A := A) (IsList_of e) (IsList_of e') (by simp; omega) (by have := L.u; omega) _ _ _ _ hq
theorem cmp_ne_str {x y : Str} : CmpPV c k .NotEq (.str x) (.str y) (!(x == y)) := by
  intro pl g s X A v v' Q E L hv hv' hq
  cases hv.rep (by intro xs q; cases q)
  cases hv'.rep (by intro xs q; cases q)
  exact RcNeAt.str_str _ _ _ _ _ _ _ _ hq
theorem cmp_eq_str {x y : Str} : CmpPV c k .Eq (.str x) (.str y) (x == y) := by
  intro pl g s X A v v' Q E L hv hv' hq
  cases hv.rep (by intro xs q; cases q)
  cases hv'.rep (by intro xs q; cases q)
  exact RcAt.str_str _ _ _ _ _ _ _ _ hq
theorem cmp_ne_int {x y : Int} : CmpPV c k .NotEq (.int x) (.int y) (!(x == y)) := by
  intro pl g s X A v v' Q E L hv hv' hq
  cases hv.rep (by intro xs q; cases q)
  cases hv'.rep (by intro xs q; cases q)
  exact RcNeAt.int_int _ _ _ _ _ _ _ _ hq
theorem cmp_eq_int {x y : Int} : CmpPV c k .Eq (.int x) (.int y) (x == y) := by
  intro pl g s X A v v' Q E L hv hv' hq
  cases hv.rep (by intro xs q; cases q)
  cases hv'.rep (by intro xs q; cases q)
  exact RcAt.int_int _ _ _ _ _ _ _ _ hq
theorem cmp_ne_bool {x y : Bool} : CmpPV c k .NotEq (.bool x) (.bool y) (!(x == y)) := by
  intro pl g s X A v v' Q E L hv hv' hq
  cases hv.rep (by intro xs q; cases q)
  cases hv'.rep (by intro xs q; cases q)
  exact RcNeAt.bool_bool _ _ _ _ _ _ hq
theorem cmp_ne_obj {i j : Nat} : CmpPV c k .NotEq (.obj i) (.obj j) (!(i == j)) := by
  intro pl g s X A v v' Q E L hv hv' hq
  have ri := hv.rep (by intro xs q; cases q)
  have rj := hv'.rep (by intro xs q; cases q)
  obtain ⟨x, d, es, n, rfl, e1, e2, e3, I⟩ := X.instOf ri
  obtain ⟨y, d', es', n', rfl, f1, f2, f3, J⟩ := X.instOf rj
  have hu : A.units + 1 < cLine := by have := L.u; omega
  show wpAny _ _ (richCompare .NotEq _ _) _ _ _
  by_cases hxy : x = y
  · subst hxy
    have := X.obj_inj ri rj
    subst this
    exact richNeP_same X.KIn X.ok.cls I hu (by simpa using hq)
  · have hij : i ≠ j := fun q => by subst q; rw [e1] at f1; cases f1; exact hxy rfl
    have hb : (i == j) = false := by simpa using hij
    rw [hb] at hq
    exact richNeP_other X.KIn X.ok.cls I J hxy hu hq
theorem cmp_isnot_none : CmpPV c k .IsNot .none .none false := by
  intro pl g s X A v v' Q E L hv hv' hq
  cases hv.rep (by intro xs q; cases q)
  cases hv'.rep (by intro xs q; cases q)
  exact wpAny_isNot_self rfl hq
theorem cmp_isnot_obj {i : Nat} : CmpPV c k .IsNot (.obj i) .none true := by
  intro pl g s X A v v' Q E L hv hv' hq
  cases hv.rep (by intro xs q; cases q)
  cases hv'.rep (by intro xs q; cases q)
  exact wpAny_isNot_other rfl (by intro q; cases q) hq
theorem cmp_gt_int {x y : Int} : CmpPV c k .Gt (.int x) (.int y) (decide (y < x)) := by
  intro pl g s X A v v' Q E L hv hv' hq
  cases hv.rep (by intro xs q; cases q)
  cases hv'.rep (by intro xs q; cases q)
  exact gt_int hq
theorem cmp_lt_int {x y : Int} : CmpPV c k .Lt (.int x) (.int y) (decide (x < y)) := by
  intro pl g s X A v v' Q E L hv hv' hq
  cases hv.rep (by intro xs q; cases q)
  cases hv'.rep (by intro xs q; cases q)
  exact lt_int hq
theorem TrE.toV {e : Expr} {p : PV} (h : TrE c k sc σ e p σ') : TrV c k sc σ e p σ' := by
  intro A env g s Q E L V F hQ
  exact h A env g s Q E L V F fun v g' s' N r => hQ v g' s' N (.inl r)
theorem trv_own {x : Str} {pos : Pos} {i : Nat} {kd : NameKind} {xs : List PV} (hi : vloc sc x = some (i, kd)) (hv : σ.vs[i]? = some (some (.lst xs))) : TrV c k sc σ (.Name x pos) (.list xs) σ := by
  intro A env g s Q E L V F hQ
  refine load_var V F hi hv fun v _ hb => hQ v g s (.refl F) ?_
  obtain ⟨a, its, n, rfl, e, r, l, m⟩ := hb
  exact .inr ⟨xs, a, its, n, rfl, rfl, e, r, l⟩
theorem tr_cmp {l r : Expr} {op : CmpOp} {pos : Pos} {p q : PV} {b : Bool} (hl : TrE c k sc σ l p σ₁) (hr : TrV c k sc σ₁ r q σ₂) (h : CmpPV c k op p q b) (hm : behindInMarks op r = false) : TrE c k sc σ (.Compare l [op] [r] pos) (.bool b) σ₂ := by
  intro A env g s Q E L V F hQ
  refine wpAny_Compare1 (hl A env g s _ E L V F fun v g' s' N rv => ?_) hm
  exact hr A env g' s' _ E L V N.sim fun v' g'' s'' N' rv' => h N'.sim.gs L (.inl (rv.le N'.le)) rv' (hQ _ _ _ (N.trans N') (.bool b))
theorem trt_cmp {l r : Expr} {op : CmpOp} {pos : Pos} {p q : PV} {b : Bool} (hl : TrE c k sc σ l p σ₁) (hr : TrV c k sc σ₁ r q σ₂) (h : CmpPV c k op p q b) (hm : behindInMarks op r = false) : TrT c k sc σ (.Compare l [op] [r] pos) b σ₂ := by
  intro A env g s Q E L V F hQ
  refine wpAny_isTrue_Compare1 (hl A env g s _ E L V F fun v g' s' N rv => ?_) hm
  exact hr A env g' s' _ E L V N.sim fun v' g'' s'' N' rv' => h N'.sim.gs L (.inl (rv.le N'.le)) rv' (wpAny_truthy_bool (hQ _ _ (N.trans N')))
theorem trt_cmp_own {x : Str} {xp pos : Pos} {r : Expr} {op : CmpOp} {xs : List PV} {q : PV} {b : Bool} {i : Nat} {kd : NameKind} (hi : vloc sc x = some (i, kd)) (hv : σ.vs[i]? = some (some (.lst xs))) (hr : TrE c k sc σ r q σ₁) (hv' : σ₁.vs[i]? = some (some (.lst xs)))
    (h : CmpPV c k op (.list xs) q b) (hm : behindInMarks op r = false) : TrT c k sc σ (.Compare (.Name x xp) [op] [r] pos) b σ₁ := by
  intro A env g s Q E L V F hQ
  refine wpAny_isTrue_Compare1 (load_var V F hi hv fun v hs _ => ?_) hm
  refine hr A env g s _ E L V F fun v' g'' s'' N' rv' => ?_
  obtain ⟨y, ky, v2, e2, hs2, hb2⟩ := N'.sim.fs.vars i _ hv'
  rw [vloc_get hi] at e2; cases e2
  have := SlotAt.eq hs2 (N'.stay.slot hs)
  subst this
  obtain ⟨a, its, n, rfl, e, r, l, m⟩ := hb2
  exact h N'.sim.gs L (.inr ⟨xs, a, its, n, rfl, rfl, e, r, l⟩) (.inl rv') (wpAny_truthy_bool (hQ _ _ N'))
theorem trt_not {x : Expr} {pos : Pos} {b : Bool} (h : TrT c k sc σ x b σ₁) : TrT c k sc σ (.UnaryOp .Not x pos) (!b) σ₁ := by
  intro A env g s Q E L V F hQ
  exact wpAny_isTrue_Not (h A env g s _ E L V F fun g' s' N => hQ g' s' N)
theorem trt_and {x y : Expr} {pos : Pos} {b b' : Bool} (h : TrT c k sc σ x b σ) (h' : b = true → TrT c k sc σ y b' σ) : TrT c k sc σ (.BoolOp .And [x, y] pos) (b && b') σ := by
  intro A env g s Q E L V F hQ
  refine wpAny_isTrue_BoolOp (wpAny_allTrue_And_cons (h A env g s _ E L V F fun g' s' N => ?_))
  cases b with
  | false => exact hQ g' s' N
  | true =>
    refine wpAny_allTrue_And_cons (h' rfl A env g' s' _ E L V N.sim fun g'' s'' N' => ?_)
    cases b' with
    | false => exact hQ g'' s'' (N.trans N')
    | true => exact wpAny_allTrue_And_nil (hQ g'' s'' (N.trans N'))
theorem trt_or {x y : Expr} {pos : Pos} {b b' : Bool} (h : TrT c k sc σ x b σ) (h' : b = false → TrT c k sc σ y b' σ) : TrT c k sc σ (.BoolOp .Or [x, y] pos) (b || b') σ := by
  intro A env g s Q E L V F hQ
  refine wpAny_isTrue_BoolOp (wpAny_allTrue_Or_cons (h A env g s _ E L V F fun g' s' N => ?_))
  cases b with
  | true => exact hQ g' s' N
  | false =>
    refine wpAny_allTrue_Or_cons (h' rfl A env g' s' _ E L V N.sim fun g'' s'' N' => ?_)
    cases b' with
    | true => exact hQ g'' s'' (N.trans N')
    | false => exact wpAny_allTrue_Or_nil (hQ g'' s'' (N.trans N'))
theorem trt_list {e : Expr} {xs : List PV} (h : TrV c k sc σ e (.list xs) σ₁) (he : ∀ env whole, isTrue e env whole = (do let v ← whole; standAt e.pos; holding [v] (truthy v))) : TrT c k sc σ e (!xs.isEmpty) σ₁ := by
  intro A env g s Q E L V F hQ
  refine wpAny_isTrue_value (h A env g s _ E L V F fun v g' s' N rv => ?_) (he env _)
  obtain ⟨a, its, n, rfl, e, r, l⟩ := rv.list N.sim.gs
  refine wpAny_truthy_list (IsList_of e) (by rw [sizeLine_eq] at l; omega) ?_
  have : its.isEmpty = xs.isEmpty := by
    have := r.length
    cases xs <;> simp_all [Array.isEmpty]
  rw [this]
  exact hQ g' _ ⟨N.le, N.sim.toks _, N.stay⟩
theorem trt_bool {e : Expr} {b : Bool} (h : TrE c k sc σ e (.bool b) σ₁) (he : ∀ env whole, isTrue e env whole = (do let v ← whole; standAt e.pos; holding [v] (truthy v))) : TrT c k sc σ e b σ₁ := by
  intro A env g s Q E L V F hQ
  refine wpAny_isTrue_value (h A env g s _ E L V F fun v g' s' N rv => ?_) (he env _)
  cases rv
  exact wpAny_truthy_bool (hQ g' s' N)
theorem tr_ifexp {test body orelse : Expr} {pos : Pos} {b : Bool} {p : PV} (h : TrT c k sc σ test b σ₁) (ht : b = true → TrE c k sc σ₁ body p σ₂) (hf : b = false → TrE c k sc σ₁ orelse p σ₂) : TrE c k sc σ (.IfExp test body orelse pos) p σ₂ := by
  intro A env g s Q E L V F hQ
  refine wpAny_IfExp (h A env g s _ E L V F fun g' s' N => ?_)
  cases b with
  | true => exact ht rfl A env g' s' _ E L V N.sim fun v g'' s'' N' r => hQ v g'' s'' (N.trans N') r
  | false => exact hf rfl A env g' s' _ E L V N.sim fun v g'' s'' N' r => hQ v g'' s'' (N.trans N') r
end
end RM
end
noncomputable section
open PySem.SeqAt PySem.MeetsSeq
namespace RM
theorem remove_loopE (l : Addr) (items : Array Value) (n : Nat) (x : Value) (e : Value → Bool) (j : Nat) (hj : j < items.size) (hit : e items[j] = true) (hs1 : items.size ≤ sizeLine) (k : Nat) :
    ∀ i : Nat, j - i = k → i ≤ j → (∀ m (hm : m < items.size), i ≤ m → m < j → e items[m] = false) → Meets (Builtin.«list.remove.loop» ⟨[.ref l, x, rawInt i], []⟩)
      (fun A R s => s.heap.get? l = some (listOf items n) ∧ (∀ y, y ∈ items → EqAt A.in1 s y x (e y)) ∧ R (.ok (.ret .none)) { s with heap := s.heap.update l (Obj.mapSeq fun xs => xs.eraseIdxIfInBounds j) }) := by
  induction k with
  | zero =>
    intro i hk hij hno prog w A R s h
    obtain ⟨hp, g, d, tk, os⟩ := s; obtain ⟨hl, he, h⟩ := h
    have hij' : i = j := by omega
    subst hij'
    wp_walk using AutoSeq1.wpAny_loadPart' hl
    have hi : items[((i : Nat) : Int).toNat]? = some items[i] := by simp [hj]
    rw [hi]
    refine wpAny_bind (he _ (Array.getElem_mem hj) prog w _ _ ?_)
    rw [hit]
    have hz' : (items.eraseIdxIfInBounds i).size ≤ sizeLine + 1 := Nat.le_trans (size_erased items _) (Nat.le_succ_of_le hs1)
    wp_walk using (wpAny_updateSeq hl rfl (hz := hs1) (_hz' := hz')), AutoSeq1.wpAny_loadPart' hl
    simpa using h
  | succ k ih =>
    intro i hk hij hno prog w A R s h
    obtain ⟨hp, g, d, tk, os⟩ := s; obtain ⟨hl, he, h⟩ := h
    have hlt : i < items.size := by omega
    wp_walk using AutoSeq1.wpAny_loadPart' hl
    have hi : items[((i : Nat) : Int).toNat]? = some items[i] := by simp [hlt]
    have hc : ((i : Int) + 1) = ((i + 1 : Nat) : Int) := by push_cast; rfl
    rw [hi]
    refine wpAny_bind (he _ (Array.getElem_mem hlt) prog w _ _ ?_)
    rw [hno i hlt (Nat.le_refl _) (by omega)]
    wp_walk
    rw [hc]
    exact ⟨plainId_quiet plain_remove_loop _, codeAny_builtin entry_remove_loop (by
      rw [Around.under_plainId plain_remove_loop _]
      exact ih (i + 1) (by omega) (by omega) (fun m hm h1 h2 => hno m hm (by omega) h2) prog w A R _ ⟨hl, he, h⟩)⟩
theorem list_removeE (l : Addr) (items : Array Value) (n : Nat) (x : Value) (e : Value → Bool) (j : Nat) (hj : j < items.size)
    (hit : e items[j] = true) (hno : ∀ m (hm : m < items.size), m < j → e items[m] = false) (hs1 : items.size ≤ sizeLine) :
    Meets (Builtin.«list.remove» ⟨[.ref l, x], []⟩)
      (fun A R s => s.heap.get? l = some (listOf items n) ∧ (∀ y, y ∈ items → EqAt A.in1 s y x (e y)) ∧ R (.ok (.ret .none)) { s with heap := s.heap.update l (Obj.mapSeq fun xs => xs.eraseIdxIfInBounds j) }) := by
  intro prog w A R s h
  obtain ⟨hp, g, d, tk, os⟩ := s; obtain ⟨hl, he, h⟩ := h
  wp_walk using AutoSeq1.wpAny_loadPart' hl
  exact ⟨plainId_quiet plain_remove_loop _, codeAny_builtin entry_remove_loop (by
    rw [Around.under_plainId plain_remove_loop _]
    exact remove_loopE l items n x e j hj hit hs1 _ 0 rfl (Nat.zero_le _) (fun m hm _ h2 => hno m hm h2) prog w A R _ ⟨hl, he, h⟩)⟩
section
variable {c : KB} {k : Nat} {sc : Scope} {σ σ' σ₁ σ₂ σ₃ : St} {pl : List PRec} {g g' : G} {s s' : Shared} {env : Env}
theorem Reps.erase : ∀ {vs : List Value} {ps : List PV}, Reps c.w g vs ps → ∀ i, Reps c.w g (vs.eraseIdx i) (ps.eraseIdx i)
  | _, _, .nil, i => by simpa using Reps.nil
  | _, _, .cons a r, 0 => by simpa using r
  | _, _, .cons a r, i + 1 => by simpa using Reps.cons a (Reps.erase r i)
theorem erase_map {α β : Type} (f : α → β) : ∀ (l : List α) (i : Nat), (l.eraseIdx i).map f = (l.map f).eraseIdx i
  | [], i => by simp
  | a :: l, 0 => by simp
  | a :: l, i + 1 => by simp [erase_map f l i]
theorem own_update {i : Nat} {x : Str} {kd : NameKind} {a : Addr} {its its' : Array Value} {n : Nat} {xs xs' : List PV} {f : Array Value → Array Value} (F : FSim c sc env σ g s) (hi : vloc sc x = some (i, kd)) (hv : σ.vs[i]? = some (some (.lst xs))) (hs : SlotAt env s.heap x kd (.ref a))
    (e : s.heap.get? a = some (listOf its n)) (r : Reps c.w g its.toList xs) (l : its.size ≤ sizeLine) (m : Mut g a) (hf : f its = its') (r' : Reps c.w g its'.toList xs') (l' : its'.size ≤ sizeLine) {t : Nat} :
    FSim c sc env (σ.set i (.lst xs')) g { s with heap := s.heap.update a (Obj.mapSeq f), toks := t } := by
  have hnew : ∃ n', Obj.mapSeq f (listOf its n) = listOf its' n' := by
    subst hf
    exact ⟨_, rfl⟩
  obtain ⟨n', hn'⟩ := hnew
  have hget : (s.heap.update a (Obj.mapSeq f)).get? a = some (listOf its' n') := by
    rw [← hn']; exact Heap.get?_update_self _ e (by rw [hn']; rfl)
  refine FSim.setOwn (s' := { s with heap := s.heap.update a (Obj.mapSeq f), toks := t }) F hv rfl (vloc_get hi) hs (Heap.SameBut.update ..).extBut rfl rfl (b' := .lst xs') ?_ (.inl ⟨its, n, e⟩) ?_
  · exact ⟨a, its', n', rfl, hget, r', l', m⟩
  · exact ⟨a, its, n, rfl, e, r, l, m⟩
theorem Next.own {σ' : St} {g₁ : G} {s₁ s₂ : Shared} (N : Next c sc env σ g s g₁ s₁) (F : FSim c sc env σ' g₁ s₂) {a : Addr} {its : Array Value} {n : Nat} (e : s₁.heap.get? a = some (listOf its n)) (K : Heap.ExtBut a s₁.heap s₂.heap) : Next c sc env σ' g s g₁ s₂ := by
  refine ⟨N.le, F, N.stay.trans ⟨fun m ⟨o, es, ep, e', d, r⟩ => ⟨o, es, ep, K _ _ (fun q => ?_) e', d, r⟩, fun x b v _ ⟨o, e', d⟩ => ⟨o, K _ _ (fun q => ?_) e', d⟩⟩⟩
  · rw [q, e] at e'; cases e'; cases d
  · rw [q, e] at e'; cases e'; cases d
theorem tr_append {x : Str} {xp apos pos : Pos} {e : Expr} {i : Nat} {kd : NameKind} {xs0 xs : List PV} {p : PV} (hi : vloc sc x = some (i, kd)) (h0 : σ.vs[i]? = some (some (.lst xs0))) (hp : PlainArgs [e]) (he : TrE c k sc σ e p σ₁) (h1 : σ₁.vs[i]? = some (some (.lst xs)))
    (hl : (apos.endLine == pos.line) = true) (hlen : xs.length < sizeLine) : TrE c k sc σ (.Call (.Attribute (.Name x xp) "append" apos) [e] [] pos) .none (σ₁.set i (.lst (xs ++ [p]))) := by
  intro A env g s Q E L V F hQ
  refine own_method hi h0 hp (tra_cons (fun env => by have := hp env; simpa [starEach, evalEach] using this) he tra_nil) h1 PySem.slot_list_append PySem.F.type_list_append hl (by simp) L V F fun a its n vs g' s' N hs e r l m R => ?_
  cases R with
  | cons rv R =>
    cases R
    have hsz : its.size = xs.length := by have := r.length; simpa using this
    refine wpAny_call_entry PySem.slot_list_append ⟨_, e, rfl⟩ PySem.entry_list_append ?_ (PySem.args_list_append _ _)
    show wpAny _ _ (updateSeq a (·.push _) >>= fun _ => ret .none) _ _ s'
    refine wpAny_bind ?_
    refine wpAny_updateSeq e rfl (wpAny_pure ⟨.none, rfl, ?_⟩) (hz := l)
    have F' := own_update (f := (·.push _)) N.sim hi h1 hs e r l m rfl (by simpa using r.snoc rv) (by simp; omega) (t := s'.toks)
    exact hQ _ g' _ (N.own F' e (Heap.SameBut.update ..).extBut) .none
theorem tr_pop {x : Str} {xp apos pos : Pos} {i : Nat} {kd : NameKind} {xs : List PV} {p : PV} (hi : vloc sc x = some (i, kd)) (h0 : σ.vs[i]? = some (some (.lst (xs ++ [p]))))
    (hl : (apos.endLine == pos.line) = true) : TrE c k sc σ (.Call (.Attribute (.Name x xp) "pop" apos) [] [] pos) p (σ.set i (.lst xs)) := by
  intro A env g s Q E L V F hQ
  refine own_method hi h0 (fun _ => rfl) tra_nil h0 PySem.F.slot_list_pop PySem.F.type_list_pop hl (by simp) L V F fun a its n vs g' s' N hs e r l m R => ?_
  cases R
  have hsz : its.size = xs.length + 1 := by have := r.length; simpa using this
  obtain ⟨v, hv, rv⟩ := r.get (i := xs.length) (p := p) (by simp)
  have hvi : its[its.size - 1]? = some v := by rw [hsz]; simpa using hv
  refine call_meets PySem.F.slot_list_pop ⟨_, e, rfl⟩ PySem.F.entry_list_pop (PySem.F.args_list_pop_1 _) (list_pop_last a its n v hvi l) ⟨e, ?_⟩
  have hE : (its.eraseIdxIfInBounds (its.size - 1)).toList = its.toList.eraseIdx xs.length := by
    rw [Array.eraseIdxIfInBounds, dif_pos (by omega), Array.toList_eraseIdx]; congr 1; omega
  have hps : (xs ++ [p]).eraseIdx xs.length = xs := by
    rw [List.eraseIdx_append_of_length_le (Nat.le_refl _)]; simp
  have r' : Reps c.w g' (its.eraseIdxIfInBounds (its.size - 1)).toList xs := by rw [hE]; have := r.erase xs.length; rwa [hps] at this
  have F' := own_update (f := fun xs => xs.eraseIdxIfInBounds (its.size - 1)) N.sim hi h0 hs e r l m rfl r' (Nat.le_trans (size_erased its _) l) (t := s'.toks)
  exact hQ v g' _ (N.own F' e (Heap.SameBut.update ..).extBut) rv
theorem Rep.int_inv {w : World} {g : G} {v : Value} {i : Int} (r : Rep w g v (.int i)) : ∃ t, v = .int i t := by
  cases r; exact ⟨_, rfl⟩
theorem tr_popAt {x : Str} {xp apos pos : Pos} {e : Expr} {i : Nat} {kd : NameKind} {xs0 xs : List PV} {j : Nat} {p : PV} (hi : vloc sc x = some (i, kd)) (h0 : σ.vs[i]? = some (some (.lst xs0))) (hp : PlainArgs [e]) (he : TrE c k sc σ e (.int j) σ₁) (h1 : σ₁.vs[i]? = some (some (.lst xs))) (hj : xs[j]? = some p)
    (hl : (apos.endLine == pos.line) = true) : TrE c k sc σ (.Call (.Attribute (.Name x xp) "pop" apos) [e] [] pos) p (σ₁.set i (.lst (xs.eraseIdx j))) := by
  intro A env g s Q E L V F hQ
  refine own_method hi h0 hp (tra_cons (fun env => by have := hp env; simpa [starEach, evalEach] using this) he tra_nil) h1 PySem.F.slot_list_pop PySem.F.type_list_pop hl (by simp) L V F fun a its n vs g' s' N hs e r l m R => ?_
  cases R with
  | cons rj R =>
    cases R
    obtain ⟨tj, rfl⟩ := rj.int_inv
    have hsz : its.size = xs.length := by have := r.length; simpa using this
    obtain ⟨v, hv, rv⟩ := r.get (i := j) (p := p) hj
    have hjl : j < xs.length := (List.getElem?_eq_some_iff.mp hj).1
    have hvi : its[j]? = some v := by simpa using hv
    have hfit : Builtin.List.listFitsIndex (j : Int) = true := by
      rw [sizeLine_eq] at l
      simp only [Builtin.List.listFitsIndex, Bool.and_eq_true, decide_eq_true_eq]
      omega
    have hk : seqIndex? (j : Int) its.size = some j := by
      unfold seqIndex?; simp; omega
    generalize hji : (j : Int) = ji at hfit hk ⊢
    have hmeet := list_pop_at a its n ji tj j v hfit hk hvi l
    refine call_meets PySem.F.slot_list_pop ⟨_, e, rfl⟩ PySem.F.entry_list_pop (PySem.F.args_list_pop_2 _ _) hmeet ⟨e, ?_⟩
    have hE : (its.eraseIdxIfInBounds j).toList = its.toList.eraseIdx j := by
      rw [Array.eraseIdxIfInBounds, dif_pos (by omega), Array.toList_eraseIdx]
    have r' : Reps c.w g' (its.eraseIdxIfInBounds j).toList (xs.eraseIdx j) := by rw [hE]; exact r.erase j
    have hz2 : (its.eraseIdxIfInBounds j).size ≤ sizeLine := Nat.le_trans (size_erased its _) l
    have F' := own_update (f := fun xs => xs.eraseIdxIfInBounds j) N.sim hi h1 hs e r l m rfl r' hz2 (t := s'.toks)
    exact hQ v g' _ (N.own F' e (Heap.SameBut.update ..).extBut) rv
theorem findIdx_split {α : Type} [DecidableEq α] {l : List α} {x : α} (h : x ∈ l) : ∃ j : Nat, j < l.length ∧ l[j]? = some x ∧ (∀ m < j, l[m]? ≠ some x) ∧ j = l.idxOf x := by
  refine ⟨l.idxOf x, List.idxOf_lt_length_of_mem h, ?_, fun m hm q => ?_, rfl⟩
  · have := List.getElem_idxOf (List.idxOf_lt_length_of_mem h)
    rw [List.getElem?_eq_getElem (List.idxOf_lt_length_of_mem h), this]
  · have hml : m < l.length := Nat.lt_trans hm (List.idxOf_lt_length_of_mem h)
    rw [List.getElem?_eq_getElem hml] at q
    have : l.idxOf x ≤ m := by
      have hx : l[m] = x := Option.some.inj q
      have := List.findIdx_le_length (p := (· == x)) (xs := l)
      unfold List.idxOf
      apply Nat.le_of_not_lt
      intro hlt
      have := List.not_of_lt_findIdx hlt
      simp [hx] at this
    omega
theorem eq_probe {α : Type} [DecidableEq α] {d : Nat} {emb : α → PV} (h : EqEmb c d emb) (X : GS c pl g s) {A : Around} (hu : A.units + d < cLine) {x : α} {v : Value} (rv : Rep c.w g v (emb x)) {l : List α} {its : Array Value} (r : Reps c.w g its.toList (l.map emb)) :
    ∃ e : Value → Bool, (∀ y, y ∈ its → EqAt A s y v (e y)) ∧ (∀ m (hm : m < its.size), e its[m] = decide (l[m]? = some x)) ∧ its.toList.countP e = l.count x := by
  classical
  have key : ∀ {y : Value} {a : α}, Rep c.w g y (emb a) → decide (∃ b, Rep c.w g y (emb b) ∧ b = x) = decide (a = x) := fun {y a} ra => by
    apply decide_eq_decide.mpr
    constructor
    · rintro ⟨b, rb, rfl⟩; exact h.inj X ra rb
    · rintro rfl; exact ⟨a, ra, rfl⟩
  refine ⟨fun y => decide (∃ b, Rep c.w g y (emb b) ∧ b = x), fun y hy => ?_, fun m hm => ?_, ?_⟩
  · obtain ⟨i, hi⟩ := List.getElem?_of_mem (Array.mem_toList_iff.mpr hy)
    obtain ⟨p, hp, rp⟩ := r.getV hi
    rw [List.getElem?_map] at hp
    obtain ⟨a, ha, rfl⟩ := Option.map_eq_some_iff.mp hp
    dsimp only
    rw [key rp]; exact h.at' X hu rp rv
  · obtain ⟨p, hp, rp⟩ := r.getV (i := m) (v := its[m]) (by simp [hm])
    rw [List.getElem?_map] at hp
    obtain ⟨a, ha, rfl⟩ := Option.map_eq_some_iff.mp hp
    dsimp only
    rw [key rp, ha]; simp
  · have hl : ∀ {vs : List Value} {l : List α}, Reps c.w g vs (l.map emb) → vs.countP (fun y => decide (∃ b, Rep c.w g y (emb b) ∧ b = x)) = l.count x := by
      intro vs l
      induction l generalizing vs with
      | nil => intro r; cases r; rfl
      | cons a l ih =>
        intro r
        cases r with
        | cons ra r =>
          rw [List.countP_cons, ih r, key ra, List.count_cons]
          simp
    exact hl r
theorem tr_remove {α : Type} [DecidableEq α] {d : Nat} {emb : α → PV} (hE : EqEmb c d emb) (hd : d ≤ 50) {x : Str} {xp apos pos : Pos} {e : Expr} {i : Nat} {kd : NameKind} {xs0 : List PV} {l : List α} {a : α} (hi : vloc sc x = some (i, kd)) (h0 : σ.vs[i]? = some (some (.lst xs0))) (hp : PlainArgs [e]) (he : TrE c k sc σ e (emb a) σ₁)
    (h1 : σ₁.vs[i]? = some (some (.lst (l.map emb)))) (ha : a ∈ l) (hl : (apos.endLine == pos.line) = true) : TrE c k sc σ (.Call (.Attribute (.Name x xp) "remove" apos) [e] [] pos) .none (σ₁.set i (.lst ((l.eraseIdx (l.idxOf a)).map emb))) := by
  intro A env g s Q E L V F hQ
  refine own_method hi h0 hp (tra_cons (fun env => by have := hp env; simpa [starEach, evalEach] using this) he tra_nil) h1 PySem.F.slot_list_remove PySem.F.type_list_remove hl (by simp) L V F fun ad its n vs g' s' N hs e r sz m R => ?_
  cases R with
  | cons rv R =>
    cases R
    have hsz : its.size = l.length := by have := r.length; simpa using this
    obtain ⟨f, hf, hfm, _⟩ := eq_probe hE N.sim.gs (A := A.in1.in1) (by have := L.u; show A.units + 1 + 1 + d < cLine; omega) rv r
    obtain ⟨j, hj, hja, hjn, hjx⟩ := findIdx_split ha
    have hjs : j < its.size := by omega
    refine call_meets PySem.F.slot_list_remove ⟨_, e, rfl⟩ PySem.F.entry_list_remove (PySem.F.args_list_remove_2 _ _)
      (list_removeE ad its n _ f j hjs (by rw [hfm j hjs, hja]; simp) (fun m hm hmj => by rw [hfm m hm]; simpa using hjn m hmj) sz) ⟨e, fun y hy => (hf y hy).of_in1, ?_⟩
    have hEr : (its.eraseIdxIfInBounds j).toList = its.toList.eraseIdx j := by
      rw [Array.eraseIdxIfInBounds, dif_pos (by omega), Array.toList_eraseIdx]
    have r' : Reps c.w g' (its.eraseIdxIfInBounds j).toList ((l.eraseIdx (l.idxOf a)).map emb) := by
      rw [hEr, ← hjx, erase_map]; exact r.erase j
    have F' := own_update (f := fun xs => xs.eraseIdxIfInBounds j) N.sim hi h1 hs e r sz m rfl r' (Nat.le_trans (size_erased its _) sz) (t := s'.toks)
    exact hQ _ g' _ (N.own F' e (Heap.SameBut.update ..).extBut) .none
theorem tr_countOwn {α : Type} [DecidableEq α] {d : Nat} {emb : α → PV} (hE : EqEmb c d emb) (hd : d ≤ 50) {x : Str} {xp apos pos : Pos} {e : Expr} {i : Nat} {kd : NameKind} {xs0 : List PV} {l : List α} {a : α} (hi : vloc sc x = some (i, kd)) (h0 : σ.vs[i]? = some (some (.lst xs0))) (hp : PlainArgs [e]) (he : TrE c k sc σ e (emb a) σ₁)
    (h1 : σ₁.vs[i]? = some (some (.lst (l.map emb)))) (hl : (apos.endLine == pos.line) = true) : TrE c k sc σ (.Call (.Attribute (.Name x xp) "count" apos) [e] [] pos) (.int (l.count a)) σ₁ := by
  intro A env g s Q E L V F hQ
  refine own_method hi h0 hp (tra_cons (fun env => by have := hp env; simpa [starEach, evalEach] using this) he tra_nil) h1 PySem.F.slot_list_count PySem.F.type_list_count hl (by simp) L V F fun ad its n vs g' s' N hs e r sz m R => ?_
  cases R with
  | cons rv R =>
    cases R
    obtain ⟨f, hf, _, hc⟩ := eq_probe hE N.sim.gs (A := A.in1.in1) (by have := L.u; show A.units + 1 + 1 + d < cLine; omega) rv r
    refine call_meets PySem.F.slot_list_count ⟨_, e, rfl⟩ PySem.F.entry_list_count (PySem.F.args_list_count_2 _ _)
      (list_countAt ad its n none #[] _ f) ⟨e, fun y hy => (hf y hy).of_in1, ?_⟩
    rw [hc]
    exact hQ _ g' _ ⟨N.le, N.sim.toks _, N.stay⟩ (.int _ _)
theorem tr_indexOwn {α : Type} [DecidableEq α] {d : Nat} {emb : α → PV} (hE : EqEmb c d emb) (hd : d ≤ 50) {x : Str} {xp apos pos : Pos} {e : Expr} {i : Nat} {kd : NameKind} {xs0 : List PV} {l : List α} {a : α} (hi : vloc sc x = some (i, kd)) (h0 : σ.vs[i]? = some (some (.lst xs0))) (hp : PlainArgs [e]) (he : TrE c k sc σ e (emb a) σ₁)
    (h1 : σ₁.vs[i]? = some (some (.lst (l.map emb)))) (ha : a ∈ l) (hl : (apos.endLine == pos.line) = true) : TrE c k sc σ (.Call (.Attribute (.Name x xp) "index" apos) [e] [] pos) (.int (l.idxOf a)) σ₁ := by
  intro A env g s Q E L V F hQ
  refine own_method hi h0 hp (tra_cons (fun env => by have := hp env; simpa [starEach, evalEach] using this) he tra_nil) h1 PySem.F.slot_list_index PySem.F.type_list_index hl (by simp) L V F fun ad its n vs g' s' N hs e r sz m R => ?_
  cases R with
  | cons rv R =>
    cases R
    have hsz : its.size = l.length := by have := r.length; simpa using this
    obtain ⟨f, hf, hfm, hc⟩ := eq_probe hE N.sim.gs (A := A.in1.in1) (by have := L.u; show A.units + 1 + 1 + d < cLine; omega) rv r
    obtain ⟨j, hj, hja, hjn, hjx⟩ := findIdx_split ha
    have hjs : j < its.size := by omega
    refine call_meets PySem.F.slot_list_index ⟨_, e, rfl⟩ PySem.F.entry_list_index (PySem.F.args_list_index_2 _ _)
      (list_indexAt ad its n none #[] _ f j hjs (by rw [sizeLine_eq] at sz; omega) (by rw [hfm j hjs, hja]; simp) (fun m hm hmj => by rw [hfm m hm]; simpa using hjn m hmj)) ⟨e, fun y hy => (hf y hy).of_in1, ?_⟩
    subst hjx
    exact hQ _ g' _ ⟨N.le, N.sim.toks _, N.stay⟩ (.int _ _)
end
end RM
end
noncomputable section
open PySem.SeqAt PySem.MeetsSeq
namespace RM
section
variable {c : KB} {k : Nat} {sc : Scope} {σ σ' σ₁ σ₂ σ₃ : St} {pl : List PRec} {g g' : G} {s s' : Shared} {env : Env}
theorem push_none (h : Heap) : h.get? h.objs.size = none := get_none_of_ge (Nat.le_refl _)
theorem push_ext (h : Heap) (o : Obj) : HExt h (h.push o) := fun _ _ e => Heap.get?_push_of_some _ e
theorem tr_list {es : List Expr} {pos : Pos} {ps : List PV} (h : TrArgs c k sc σ es ps σ₁) (hl : ps.length ≤ 1000) : TrN c k sc σ (.List es pos) (.lst ps) σ₁ := by
  intro A env g s Q E L V F hQ
  refine List_ (h pos A env g s _ E L V F fun vs g' s' N R => ?_)
  have hlen := R.length
  refine wpAny_newObj_type ?_ (by show vs.toArray.size ≤ sizeLine; rw [List.size_toArray, sizeLine_eq]; omega)
  exact hQ _ g' s' _ N (push_ext _ _) (push_none _) rfl rfl ⟨vs.toArray, 0, Heap.get?_push_size _ rfl, by simpa using R, by rw [List.size_toArray, sizeLine_eq]; omega⟩
theorem tr_tuple {es : List Expr} {n : Nat} {pos : Pos} {ps : List PV} (h : TrArgs c k sc σ es ps σ₁) (hl : ps.length ≤ 1000) : TrE c k sc σ (.Tuple es n pos) (.tup ps) σ₁ := by
  intro A env g s Q E L V F hQ
  refine Tuple_ (h pos A env g s _ E L V F fun vs g' s' N R => ?_)
  have hlen := R.length
  refine wpAny_newObj_type ?_ (by show vs.toArray.size ≤ sizeLine; rw [List.size_toArray, sizeLine_eq]; omega)
  obtain ⟨F'', l''⟩ := N.sim.freeze (s' := { s' with heap := s'.heap.push { cls := .type "tuple", data := .seq vs.toArray } }) (push_none _) (push_ext _ _) (Heap.get?_push_size _ rfl) rfl rfl
  exact hQ _ _ _ ⟨N.le.trans l'', F'', N.stay.trans (.ext (push_ext _ _))⟩ (.tup (G.addFz_self ..) (by simpa using R.le l'') (by rw [List.size_toArray, sizeLine_eq]; omega))
theorem tr_dict0 {pos : Pos} : TrN c k sc σ (.Dict [] [] pos) (.dct []) σ := by
  intro A env g s Q E L V F hQ
  refine wpAny_Dict_empty ?_
  exact hQ _ g s _ (.refl F) (push_ext _ _) (push_none _) rfl rfl ⟨[], 0, Heap.get?_push_size _ rfl, .nil, by simp, by simp⟩
theorem builtin_call {f : Str} {id : String} {p' pos : Pos} {args : List Expr} {ps : List PV} {i : Nat} {A : Around} {Q : Value → Shared → Prop} {E : Value → Shared → Prop} (hi : vloc sc f = some (i, .globalImplicit)) (hg : c.mg f = none) (hb : bootBuiltins f = some (.builtin id)) (hne : f ≠ "__name__")
    (hp : PlainArgs args) (ha : TrArgs c k sc σ args ps σ₁) (L : Lim k A) (V : EnvSc env sc) (F : FSim c sc env σ g s)
    (h : ∀ vs g' s', Next c sc env σ₁ g s g' s' → Reps c.w g' vs ps → wpAny (model c.prog c.w) A (call (.builtin id) vs) Q E s') : wpAny (model c.prog c.w) A (eval (.Call (.Name f p') args [] pos) env) Q E s := by
  refine wpAny_Call_NameR (load_builtin V F.gs hi hg hb hne ?_)
  have hplain : (backTo pos (starEach args env)).any (·.1) = false := by
    rw [hp env, List.any_eq_false]
    intro y hy
    simp only [backTo, List.map_map, List.mem_map, Function.comp] at hy
    obtain ⟨z, _, rfl⟩ := hy
    simp
  exact Calls.callWith_builtin hplain (evalArgs_tr hp ha L V F fun vs g' s' N R => h vs g' s' N R)
theorem builtin_callV {f : Str} {id : String} {p' pos : Pos} {e : Expr} {p : PV} {i : Nat} {A : Around} {Q : Value → Shared → Prop} {E : Value → Shared → Prop} (hi : vloc sc f = some (i, .globalImplicit)) (hg : c.mg f = none) (hb : bootBuiltins f = some (.builtin id)) (hne : f ≠ "__name__")
    (hp : PlainArgs [e]) (ha : TrV c k sc σ e p σ₁) (L : Lim k A) (V : EnvSc env sc) (F : FSim c sc env σ g s)
    (h : ∀ v g' s', Next c sc env σ₁ g s g' s' → Sees c.w g' s'.heap v p → wpAny (model c.prog c.w) A (call (.builtin id) [v]) Q E s') : wpAny (model c.prog c.w) A (eval (.Call (.Name f p') [e] [] pos) env) Q E s := by
  refine wpAny_Call_NameR (load_builtin V F.gs hi hg hb hne ?_)
  have hE : starEach [e] env = [(false, eval e env)] := by have := hp env; simpa [starEach, evalEach] using this
  rw [hE]
  refine Calls.callWith_builtin rfl (Calls.evalArgs_plain (Calls.spliced_cons ?_))
  exact ha A env g s _ E L V F fun v g' s' N rv => Calls.spliced_nil (h v g' s' N rv)
theorem tr_len {p' pos : Pos} {e : Expr} {xs : List PV} {i : Nat} (hi : vloc sc "len" = some (i, .globalImplicit)) (hg : c.mg "len" = none) (hp : PlainArgs [e]) (ha : TrV c k sc σ e (.list xs) σ₁) : TrE c k sc σ (.Call (.Name "len" p') [e] [] pos) (.int xs.length) σ₁ := by
  intro A env g s Q E L V F hQ
  refine builtin_callV (id := "len") hi hg (by decide +kernel) (by decide +kernel) hp ha L V F fun v g' s' N rv => ?_
  obtain ⟨a, its, n, rfl, e', r, sz⟩ := rv.list N.sim.gs
  have hsz : its.size = xs.length := by have := r.length; simpa using this
  refine Calls.call_len_list (IsList_of e') (by rw [sizeLine_eq] at sz; omega) ?_
  rw [hsz]
  exact hQ _ g' _ ⟨N.le, N.sim.toks _, N.stay⟩ (.int _ _)
theorem tr_item {o ix : Expr} {pos : Pos} {xs : List PV} {j : Nat} {p : PV} (ho : TrE c k sc σ o (.list xs) σ₁) (hi : TrE c k sc σ₁ ix (.int j) σ₂) (hj : xs[j]? = some p)
    (hs : ∀ a i t, subscripted ix false (.ref a) (.int i t) = operate [.ref a, .int i t] (getItem (.ref a) (.int i t))) : TrE c k sc σ (.Subscript o ix pos) p σ₂ := by
  intro A env g s Q E L V F hQ
  refine Subscript_ (ho A env g s _ E L V F fun v g' s' N rv => hi A env g' s' _ E L V N.sim fun vi g'' s'' N' ri => ?_)
  obtain ⟨t, rfl⟩ := ri.int_inv
  obtain ⟨a, its, n, rfl, e', r, sz⟩ := Sees.list N'.sim.gs (.inl (rv.le N'.le))
  obtain ⟨u, hu, ru⟩ := r.get hj
  have hjl : j < xs.length := (List.getElem?_eq_some_iff.mp hj).1
  have hsz : its.size = xs.length := by have := r.length; simpa using this
  refine tail_any (IsList_of e').typeIs slot_list_getitem.lookup (wpAny_getItem_list (IsList_of e') (by omega) (by rw [sizeLine_eq] at sz; omega) (by simpa using hu) ?_) (hs _ _ _)
  exact hQ u g'' s'' (N.trans N') ru
theorem tr_item_last {o ix : Expr} {pos : Pos} {xs : List PV} {p : PV} (ho : TrE c k sc σ o (.list xs) σ₁) (hi : TrE c k sc σ₁ ix (.int (-1)) σ₂) (hj : xs.getLast? = some p)
    (hs : ∀ a i t, subscripted ix false (.ref a) (.int i t) = operate [.ref a, .int i t] (getItem (.ref a) (.int i t))) : TrE c k sc σ (.Subscript o ix pos) p σ₂ := by
  intro A env g s Q E L V F hQ
  refine Subscript_ (ho A env g s _ E L V F fun v g' s' N rv => hi A env g' s' _ E L V N.sim fun vi g'' s'' N' ri => ?_)
  obtain ⟨t, rfl⟩ := ri.int_inv
  obtain ⟨a, its, n, rfl, e', r, sz⟩ := Sees.list N'.sim.gs (.inl (rv.le N'.le))
  rw [List.getLast?_eq_getElem?] at hj
  have hjl : xs.length - 1 < xs.length := (List.getElem?_eq_some_iff.mp hj).1
  obtain ⟨u, hu, ru⟩ := r.get hj
  have hsz : its.size = xs.length := by have := r.length; simpa using this
  refine tail_any (IsList_of e').typeIs slot_list_getitem.lookup (wpAny_getItem_list_neg (x := u) (IsList_of e') (by omega) (by omega) (by omega) ?_ ?_) (hs _ _ _)
  · have : ((-1 : Int) + its.size).toNat = xs.length - 1 := by omega
    rw [this]; simpa using hu
  · exact hQ u g'' s'' (N.trans N') ru
theorem tr_item_tup {o ix : Expr} {pos : Pos} {xs : List PV} {j : Nat} {p : PV} (ho : TrE c k sc σ o (.tup xs) σ₁) (hi : TrE c k sc σ₁ ix (.int j) σ₂) (hj : xs[j]? = some p)
    (hs : ∀ a i t, subscripted ix false (.ref a) (.int i t) = operate [.ref a, .int i t] (getItem (.ref a) (.int i t))) : TrE c k sc σ (.Subscript o ix pos) p σ₂ := by
  intro A env g s Q E L V F hQ
  refine Subscript_ (ho A env g s _ E L V F fun v g' s' N rv => hi A env g' s' _ E L V N.sim fun vi g'' s'' N' ri => ?_)
  obtain ⟨t, rfl⟩ := ri.int_inv
  cases rv.le N'.le with
  | tup e r sz =>
    rename_i a its n
    obtain ⟨u, hu, ru⟩ := r.get hj
    have hjl : j < xs.length := (List.getElem?_eq_some_iff.mp hj).1
    have hsz : its.size = xs.length := by have := r.length; simpa using this
    have e' := N'.sim.gs.fz _ _ e
    rw [sizeLine_eq] at sz
    refine item_tupleT (l := its.toList) (j := j) (x := u) ⟨_, e', rfl, n, by simp⟩ (by omega) (by omega) ?_ hu ?_ (hs _ _ _)
    · rw [Array.length_toList]; unfold seqIndex?; simp; omega
    · exact hQ u g'' s'' (N.trans N') ru
theorem keysOf_rep : ∀ {es : List DictEntry} {kvs : List (Str × PV)}, RepD c.w g es kvs → ∀ e ∈ es, ∃ k, (strKind c.prog c.w).is k e.key = true ∧ e.hash = (strKind c.prog c.w).hash k
  | _, _, .nil, e, he => by cases he
  | _, _, .cons (k := ky) rv rd, e, he => by
    rcases List.mem_cons.mp he with rfl | he'
    · exact ⟨ky, strKind_is _ _ _ _, rfl⟩
    · exact keysOf_rep rd e he'
theorem dict_get {A : Around} {a : Addr} {kvs : List (Str × PV)} {x : Str} {p : PV} {t : Tok} {es : List DictEntry} {n : Nat} {Q : Value → Shared → Prop} {E : Value → Shared → Prop} (e : s.heap.get? a = some (dictOf es n)) (r : RepD c.w g es kvs) (hx : kvs.lookup x = some p)
    (h : ∀ v, Rep c.w g v p → Q v { s with toks := s.toks + 1 }) : wpAny (model c.prog c.w) A (getItem (.ref a) (.str x t)) Q E s := by
  have keys : KeysOf (strKind c.prog c.w) es.toArray := fun e he => keysOf_rep r e (by simpa using he)
  have hval : ∃ v, findBy (strKind c.prog c.w).is es.toArray x = some v ∧ Rep c.w g v p := by
    clear keys e
    induction es generalizing kvs with
    | nil => cases r; simp at hx
    | cons e0 es ih =>
      cases r with
      | cons rv rd =>
        rename_i ky tk v pv kvs'
        rw [List.lookup_cons] at hx
        simp only [findBy, List.find?_toArray, List.find?_cons]
        cases hk : x == ky with
        | true =>
          simp only [hk] at hx
          have : x = ky := by simpa using hk
          subst this
          simp only [strKind_is]
          cases hx; exact ⟨v, rfl, rv⟩
        | false =>
          simp only [hk] at hx
          have : (strKind c.prog c.w).is x (.str ky tk) = false := by
            rw [KeyKind.is_eq_decide (strKind_is c.prog c.w ky tk)]
            simpa using hk
          simp only [this]
          obtain ⟨u, hu, ru⟩ := ih rd hx
          exact ⟨u, by simpa [findBy] using hu, ru⟩
  obtain ⟨v, hv, rv⟩ := hval
  exact wpAny_getItem_of (knd := strKind c.prog c.w) (f := fun k => findBy (strKind c.prog c.w).is es.toArray k) (strKind_is _ _ _ _) ⟨_, _, _, e, ⟨rfl, rfl, rfl⟩, rfl, keys, fun _ => rfl⟩ hv (h v rv)
theorem tr_item_dict {o ix : Expr} {pos : Pos} {kvs : List (Str × PV)} {x : Str} {p : PV} (ho : TrE c k sc σ o (.dict kvs) σ₁) (hi : TrE c k sc σ₁ ix (.str x) σ₂) (hj : kvs.lookup x = some p)
    (hs : ∀ a i t, subscripted ix false (.ref a) (.str i t) = operate [.ref a, .str i t] (getItem (.ref a) (.str i t))) : TrE c k sc σ (.Subscript o ix pos) p σ₂ := by
  intro A env g s Q E L V F hQ
  refine Subscript_ (ho A env g s _ E L V F fun v g' s' N rv => hi A env g' s' _ E L V N.sim fun vi g'' s'' N' ri => ?_)
  cases ri
  cases rv.le N'.le with
  | dict _ e r nd sz =>
    have e' := N'.sim.gs.fz _ _ e
    refine tail_any (T := "dict") ⟨_, e', rfl⟩ slot_dict_getitem.lookup (dict_get e' r hj fun u ru => ?_) (hs _ _ _)
    exact hQ u g'' _ (N.trans ⟨N'.le, N'.sim.toks _, N'.stay⟩) ru
inductive PartV : PV → Option Nat → Prop
  | none : PartV .none none
  | int (n : Nat) : PartV (.int n) (some n)
def TrPart (c : KB) (k : Nat) (sc : Scope) (σ : St) (e : Option Expr) (n : Option Nat) (σ' : St) : Prop :=
  match e, n with
  | none, none => σ' = σ
  | some e, some n => TrE c k sc σ e (.int n) σ'
  | _, _ => False
theorem part_wp {e : Option Expr} {n : Option Nat} {A : Around} {Q : Value → Shared → Prop} {E : Value → Shared → Prop} (h : TrPart c k sc σ e n σ') (L : Lim k A) (V : EnvSc env sc) (F : FSim c sc env σ g s)
    (hQ : ∀ v g' s', Next c sc env σ' g s g' s' → IsPart v (Option.map (fun n : Nat => (n : Int)) n) → Q v s') : wpAny (model c.prog c.w) A (evalPart e env) Q E s := by
  cases e with
  | none =>
    cases n with
    | none => have h' : σ' = σ := h; subst h'; exact wpAny_pure (hQ _ g s (.refl F) .none)
    | some n => exact h.elim
  | some e =>
    cases n with
    | none => exact h.elim
    | some n =>
      have h' : TrE c k sc σ e (.int n) σ' := h
      refine h' A env g s Q E L V F fun v g' s' N r => ?_
      obtain ⟨t, rfl⟩ := r.int_inv
      exact hQ _ g' s' N (.int _ _)
def sliceOf (lo hi : Option Nat) (xs : List PV) : List PV :=
  match lo, hi with
  | none, none => xs
  | some a, none => xs.drop a
  | none, some b => xs.take b
  | some a, some b => (xs.take b).drop a
theorem slicePick_rep {its : Array Value} {xs : List PV} (r : Reps c.w g its.toList xs) {lo hi : Option Nat} (hh : lo = none ∨ hi = none) : Reps c.w g (slicePick its (Option.map (fun n : Nat => (n : Int)) lo) (Option.map (fun n : Nat => (n : Int)) hi) none).toList (sliceOf lo hi xs) := by
  cases lo with
  | none =>
    cases hi with
    | none => simp only [Option.map_none, slicePick_all, sliceOf]; exact r
    | some b => simp only [Option.map_none, Option.map_some, slicePick_upto', sliceOf]; exact r.take b
  | some a =>
    cases hi with
    | none => simp only [Option.map_none, Option.map_some, slicePick_from', sliceOf]; exact r.drop a
    | some b => rcases hh with h | h <;> cases h
theorem tr_slice {o : Expr} {lo hi : Option Expr} {p pos : Pos} {xs : List PV} {nl nh : Option Nat} (ho : TrE c k sc σ o (.list xs) σ₁) (hl : TrPart c k sc σ₁ lo nl σ₂) (hh : TrPart c k sc σ₂ hi nh σ₃) (hn : nl = none ∨ nh = none) : TrN c k sc σ (.Subscript o (.Slice lo hi none p) pos) (.lst (sliceOf nl nh xs)) σ₃ := by
  intro A env g s Q E L V F hQ
  refine Subscript_ (ho A env g s _ E L V F fun v g' s' N rv => ?_)
  refine wpAny_Slice (part_wp hl L V N.sim fun vl g2 s2 N2 pl => part_wp hh L V N2.sim fun vu g3 s3 N3 pu => ?_)
  rw [evalPart_none]
  refine wpAny_pure ?_
  obtain ⟨a, its, n, rfl, e', r, sz⟩ := Sees.list N3.sim.gs (.inl ((rv.le N2.le).le N3.le))
  have e2 := push_ext s3.heap { cls := .type "slice", data := .fields #[vl, vu, .none] } _ _ e'
  refine tail_any (T := "list") (IsList_of e2).typeIs slot_list_getitem.lookup (wpAny_getItem_list_slice (IsList_of e2) (Heap.IsSliceOf.new ..) pl pu .none (by simp) ?_ sz) rfl
  have r' := slicePick_rep r hn
  exact hQ _ g3 { s3 with heap := s3.heap.push { cls := .type "slice", data := .fields #[vl, vu, .none] } } _ ⟨((N.trans N2).trans N3).le, N3.sim.ext (push_ext _ _) rfl rfl, ((N.trans N2).trans N3).stay.trans (.ext (push_ext _ _))⟩ (push_ext _ _) (push_none _) rfl rfl
    ⟨_, 0, Heap.get?_push_size _ rfl, r', Nat.le_trans (slicePick_size_le ..) sz⟩
theorem tr_slice_own {x : Str} {xp : Pos} {lo hi : Option Expr} {p pos : Pos} {xs : List PV} {nl nh : Option Nat} {i : Nat} {kd : NameKind} (hi' : vloc sc x = some (i, kd)) (hv : σ.vs[i]? = some (some (.lst xs))) (hl : TrPart c k sc σ lo nl σ) (hh : TrPart c k sc σ hi nh σ) (hn : nl = none ∨ nh = none) :
    TrN c k sc σ (.Subscript (.Name x xp) (.Slice lo hi none p) pos) (.lst (sliceOf nl nh xs)) σ := by
  intro A env g s Q E L V F hQ
  refine Subscript_ (load_var V F hi' hv fun v hs _ => ?_)
  refine wpAny_Slice (part_wp hl L V F fun vl g2 s2 N2 pl => part_wp hh L V N2.sim fun vu g3 s3 N3 pu => ?_)
  rw [evalPart_none]
  refine wpAny_pure ?_
  obtain ⟨y, ky, v2, e2, hs2, hb2⟩ := N3.sim.fs.vars i _ hv
  rw [vloc_get hi'] at e2; cases e2
  have := SlotAt.eq hs2 ((N2.trans N3).stay.slot hs)
  subst this
  obtain ⟨a, its, n, rfl, e', r, sz, m⟩ := hb2
  have e2 := push_ext s3.heap { cls := .type "slice", data := .fields #[vl, vu, .none] } _ _ e'
  refine tail_any (T := "list") (IsList_of e2).typeIs slot_list_getitem.lookup (wpAny_getItem_list_slice (IsList_of e2) (Heap.IsSliceOf.new ..) pl pu .none (by simp) ?_ sz) rfl
  have r' := slicePick_rep r hn
  exact hQ _ g3 { s3 with heap := s3.heap.push { cls := .type "slice", data := .fields #[vl, vu, .none] } } _ ⟨(N2.trans N3).le, N3.sim.ext (push_ext _ _) rfl rfl, (N2.trans N3).stay.trans (.ext (push_ext _ _))⟩ (push_ext _ _) (push_none _) rfl rfl
    ⟨_, 0, Heap.get?_push_size _ rfl, r', Nat.le_trans (slicePick_size_le ..) sz⟩
theorem tr_add {l r : Expr} {pos : Pos} {x y : Int} (hl : TrE c k sc σ l (.int x) σ₁) (hr : TrE c k sc σ₁ r (.int y) σ₂) : TrE c k sc σ (.BinOp l .Add r pos) (.int (x + y)) σ₂ := by
  intro A env g s Q E L V F hQ
  refine wpAny_BinOp (hl A env g s _ E L V F fun v g' s' N rv => hr A env g' s' _ E L V N.sim fun v' g'' s'' N' rv' => ?_)
  obtain ⟨t, rfl⟩ := rv.int_inv
  obtain ⟨t', rfl⟩ := rv'.int_inv
  exact add_int (hQ _ g'' _ (N.trans ⟨N'.le, N'.sim.toks _, N'.stay⟩) (.int _ _))
theorem tr_sub {l r : Expr} {pos : Pos} {x y : Int} (hl : TrE c k sc σ l (.int x) σ₁) (hr : TrE c k sc σ₁ r (.int y) σ₂) : TrE c k sc σ (.BinOp l .Sub r pos) (.int (x - y)) σ₂ := by
  intro A env g s Q E L V F hQ
  refine wpAny_BinOp (hl A env g s _ E L V F fun v g' s' N rv => hr A env g' s' _ E L V N.sim fun v' g'' s'' N' rv' => ?_)
  obtain ⟨t, rfl⟩ := rv.int_inv
  obtain ⟨t', rfl⟩ := rv'.int_inv
  exact sub_int (hQ _ g'' _ (N.trans ⟨N'.le, N'.sim.toks _, N'.stay⟩) (.int _ _))
theorem tr_mul {l r : Expr} {pos : Pos} {x y : Int} (hl : TrE c k sc σ l (.int x) σ₁) (hr : TrE c k sc σ₁ r (.int y) σ₂) (hm : IntMulOk x y) : TrE c k sc σ (.BinOp l .Mult r pos) (.int (x * y)) σ₂ := by
  intro A env g s Q E L V F hQ
  refine wpAny_BinOp (hl A env g s _ E L V F fun v g' s' N rv => hr A env g' s' _ E L V N.sim fun v' g'' s'' N' rv' => ?_)
  obtain ⟨t, rfl⟩ := rv.int_inv
  obtain ⟨t', rfl⟩ := rv'.int_inv
  exact mul_int (hQ _ g'' _ (N.trans ⟨N'.le, N'.sim.toks _, N'.stay⟩) (.int _ _)) hm
theorem tr_mod {l r : Expr} {pos : Pos} {x y : Int} (hl : TrE c k sc σ l (.int x) σ₁) (hr : TrE c k sc σ₁ r (.int y) σ₂) (hy : y ≠ 0) : TrE c k sc σ (.BinOp l .Mod r pos) (.int (x.fmod y)) σ₂ := by
  intro A env g s Q E L V F hQ
  refine wpAny_BinOp (hl A env g s _ E L V F fun v g' s' N rv => hr A env g' s' _ E L V N.sim fun v' g'' s'' N' rv' => ?_)
  obtain ⟨t, rfl⟩ := rv.int_inv
  obtain ⟨t', rfl⟩ := rv'.int_inv
  exact mod_int hy (hQ _ g'' _ (N.trans ⟨N'.le, N'.sim.toks _, N'.stay⟩) (.int _ _))
theorem tr_addl {l r : Expr} {pos : Pos} {xs ys : List PV} (hl : TrE c k sc σ l (.list xs) σ₁) (hr : TrE c k sc σ₁ r (.list ys) σ₂) (hn : xs.length + ys.length ≤ 1000) : TrN c k sc σ (.BinOp l .Add r pos) (.lst (xs ++ ys)) σ₂ := by
  intro A env g s Q E L V F hQ
  refine wpAny_BinOp (hl A env g s _ E L V F fun v g' s' N rv => hr A env g' s' _ E L V N.sim fun v' g'' s'' N' rv' => ?_)
  obtain ⟨a, its, n, rfl, e1, r1, z1⟩ := Sees.list N'.sim.gs (.inl (rv.le N'.le))
  obtain ⟨b, its', n', rfl, e2, r2, z2⟩ := Sees.list N'.sim.gs (.inl rv')
  have h1 := r1.length
  have h2 := r2.length
  rw [Array.length_toList] at h1 h2
  refine concat_meets ⟨_, e1, rfl⟩ ⟨_, e2, rfl⟩ noFill_list_add seq_list_add PySem.F.slot_list_add PySem.F.entry_list_add (PySem.F.args_list_add_2 _ _) (list_addW a b its its' n n' none none #[] #[] (by rw [sizeLine_eq]; omega)) ⟨e1, e2, ?_⟩
  exact hQ _ g'' s'' _ (N.trans N') (push_ext _ _) (push_none _) rfl rfl ⟨its ++ its', 0, Heap.get?_push_size _ rfl, by simpa using r1.append r2, by rw [Array.size_append, sizeLine_eq]; omega⟩
theorem tr_neg {e : Expr} {pos : Pos} {x : Int} (h : TrE c k sc σ e (.int x) σ₁) : TrE c k sc σ (.UnaryOp .USub e pos) (.int (-x)) σ₁ := by
  intro A env g s Q E L V F hQ
  refine wpAny_UnaryOp (h A env g s _ E L V F fun v g' s' N rv => ?_)
  obtain ⟨t, rfl⟩ := rv.int_inv
  exact neg_int (hQ _ g' _ ⟨N.le, N.sim.toks _, N.stay⟩ (.int _ _))
end
end RM
end
noncomputable section
open PySem.SeqAt PySem.MeetsSeq
namespace RM
open Classical in
noncomputable def G.prot (g : G) (h : Heap) (own : List Addr) : G := { g with fx := fun b => if b ∈ own then h.get? b else g.fx b }
def G.addNew (g : G) : Option (Addr × Obj) → G
  | none => g
  | some (a, o) => g.addFz a o
def KeepBut (own : List Addr) (h h' : Heap) : Prop := ∀ b o, b ∉ own → h.get? b = some o → h'.get? b = some o
structure Iter (c : KB) (target : Expr) (xs : List PV) (it : Addr) (own : List Addr) (At : Nat → G → Heap → Prop) : Prop where
  keep : ∀ {i : Nat} {g g' : G} {h h' : Heap}, At i g h → (∀ a ∈ own, h'.get? a = h.get? a) → (∀ (i : Nat) (a : Addr), g.φ[i]? = some a → g'.φ[i]? = some a) → (∀ a o, g.fz a = some o → g'.fz a = some o) → At i g' h'
  live : ∀ {i : Nat} {g : G} {h : Heap}, At i g h → ∀ a ∈ own, ∃ o, h.get? a = some o ∧ ∀ v, o.data ≠ .cell v
  step : ∀ {i : Nat} {g : G} {s : Shared} {x : PV} {A : Around} {Q : Value → Shared → Prop} {E : Value → Shared → Prop}, At i g s.heap → (∀ a o, g.fz a = some o → s.heap.get? a = some o) → (∀ a ∈ own, g.fz a = none) → xs[i]? = some x →
    (∀ v s' new, KeepBut own s.heap s'.heap → s'.gens = s.gens → s'.os = s.os → (∀ a o, new = some (a, o) → s.heap.get? a = none ∧ s'.heap.get? a = some o) → At (i + 1) (g.addNew new) s'.heap → Rep c.w (g.addNew new) v x → Q v s') →
    wpAny (model c.prog c.w) A (pyNext (.ref it)) (fun r s₁ => ∃ v, r = some v ∧ wpAny (model c.prog c.w) A (letOwnedTupleGo target (.ref it) v) (fun _ s₂ => Q v s₂) E s₁) E s
  stop : ∀ {g : G} {s : Shared} {A : Around} {Q : Shared → Prop} {E : Value → Shared → Prop}, A.handled = none → At xs.length g s.heap → (∀ a o, g.fz a = some o → s.heap.get? a = some o) → (∀ a ∈ own, g.fz a = none) →
    (∀ s', KeepBut own s.heap s'.heap → s'.gens = s.gens → s'.os = s.os → Q s') → wpAny (model c.prog c.w) A (pyNext (.ref it)) (fun r s₁ => r = none ∧ Q s₁) E s
def ForRun (c : KB) (k : Nat) (sc : Scope) (target : Expr) (body : List Stmt) : List PV → St → Fl → St → Prop
  | [], σ, fl, σ' => fl = .next ∧ σ' = σ
  | x :: xs, σ, fl, σ' => ∃ σ₁ f σ₂, TrA c k sc σ target x σ₁ ∧ TrSs c k sc σ₁ body f σ₂ ∧
      (match f with
       | .next => ForRun c k sc target body xs σ₂ fl σ'
       | .cont => ForRun c k sc target body xs σ₂ fl σ'
       | .brk => fl = .next ∧ σ' = σ₂
       | .ret p => fl = .ret p ∧ σ' = σ₂)
section
variable {c : KB} {k : Nat} {sc : Scope} {σ σ' σ₁ σ₂ σ₃ : St} {pl : List PRec} {g g' : G} {s s' : Shared} {env : Env}
theorem G.prot_in {g : G} {h : Heap} {own : List Addr} {a : Addr} (m : a ∈ own) : (g.prot h own).fx a = h.get? a := by simp [G.prot, m]
theorem G.prot_out {g : G} {h : Heap} {own : List Addr} {a : Addr} (m : a ∉ own) : (g.prot h own).fx a = g.fx a := by simp [G.prot, m]
theorem FSim.prot {own : List Addr} (F : FSim c sc env σ g s) (K : HExt s.heap s'.heap) (hg : s'.gens = s.gens) (ho : s'.os = s.os) (hn : ∀ a ∈ own, s.heap.get? a = none) : FSim c sc env σ (g.prot s'.heap own) s' := by
  have out : ∀ {a o}, s.heap.get? a = some o → a ∉ own := fun {a o} e m => by rw [hn a m] at e; cases e
  refine ⟨⟨F.gs.ok, fun a o e => K _ _ (F.gs.fz _ _ e), fun a o e => ?_, fun a o e => ?_, F.gs.base, F.gs.lenφ, F.gs.lendx, fun i r e => ?_, F.gs.dxn, fun d hd => ?_, hg.trans F.gs.gens, ho.trans F.gs.os⟩,
    FS.evolve F.gs F.fs (fun _ _ q => q) (fun _ _ q => q) (fun a o e _ _ => K _ _ e) (fun a o e m => ⟨m.1, by rw [G.prot_out (out e)]; exact m.2.1, m.2.2⟩)⟩
  · by_cases m : a ∈ own
    · rw [G.prot_in m] at e; exact e
    · rw [G.prot_out m] at e; exact K _ _ (F.gs.fx _ _ e)
  · rw [G.prot_out (out (F.gs.fz _ _ e))]; exact F.gs.dis _ _ e
  · obtain ⟨a, d, es, n, e1, e2, e3, e4, e5, e6⟩ := F.gs.pls i r e
    exact ⟨a, d, es, n, e1, e2, e3, K _ _ e4, RepD.mono (g := g) (g' := g.prot s'.heap own) (fun _ _ q => q) (fun _ _ q => q) e5, e6⟩
  · obtain ⟨es, n, e⟩ := F.gs.dxget hd
    exact ⟨(F.gs.dxf d hd).1, by rw [G.prot_out (out e)]; exact (F.gs.dxf d hd).2⟩
theorem FSim.own_step {own : List Addr} {fx' : Addr → Option Obj} (F : FSim c sc env σ g s) (P : ∀ a ∈ own, g.fx a ≠ none) (hc : ∀ a ∈ own, ∀ o, s.heap.get? a = some o → ∀ v, o.data ≠ .cell v) (K : KeepBut own s.heap s'.heap) (hg : s'.gens = s.gens) (ho : s'.os = s.os)
    (hfx : ∀ a o, fx' a = some o → s'.heap.get? a = some o ∧ g.fx a ≠ none) : FSim c sc env σ { g with fx := fx' } s' := by
  have out : ∀ {a}, g.fx a = none → a ∉ own := fun {a} e m => P a m e
  have fzo : ∀ {a o}, g.fz a = some o → g.fx a = none := fun {a o} e => F.gs.dis _ _ e
  refine ⟨⟨F.gs.ok, fun a o e => K _ _ (out (fzo e)) (F.gs.fz _ _ e), fun a o e => (hfx a o e).1, fun a o e => ?_, F.gs.base, F.gs.lenφ, F.gs.lendx, fun i r e => ?_, F.gs.dxn, fun d hd => ⟨(F.gs.dxf d hd).1, ?_⟩, hg.trans F.gs.gens, ho.trans F.gs.os⟩,
    FS.evolve F.gs F.fs (fun _ _ q => q) (fun _ _ q => q) (fun a o e h _ => ?_) (fun a o e m => ⟨m.1, ?_, m.2.2⟩)⟩
  · show fx' a = none
    cases q : fx' a with
    | none => rfl
    | some o' => exact absurd (fzo e) (hfx a o' q).2
  · obtain ⟨a, d, es, n, e1, e2, e3, e4, e5, e6⟩ := F.gs.pls i r e
    exact ⟨a, d, es, n, e1, e2, e3, K _ _ (out (F.gs.dxf d (List.mem_of_getElem? e2)).2) e4, RepD.mono (g := g) (g' := { g with fx := fx' }) (fun _ _ q => q) (fun _ _ q => q) e5, e6⟩
  · show fx' d = none
    cases q : fx' d with
    | none => rfl
    | some o' => exact absurd (F.gs.dxf d hd).2 (hfx d o' q).2
  · refine K _ _ (fun m => ?_) e
    rcases h with h | ⟨v, h⟩
    · exact P a m h.2.1
    · exact hc a m o e v h
  · show fx' a = none
    cases q : fx' a with
    | none => rfl
    | some o' => exact absurd m.2.1 (hfx a o' q).2
theorem for_loop {target : Expr} {body : List Stmt} {xs : List PV} {it : Addr} {own : List Addr} {At : Nat → G → Heap → Prop} {fl : Fl} {A : Around} {R : Result → Shared → Prop}
    (I : Iter c target xs it own At) (L : Lim k A) (V : EnvSc env sc) (F : FSim c sc env σ (g.prot s.heap own) s) (hat : At 0 g s.heap) (hfx : ∀ a ∈ own, g.fx a = none) (hrun : ForRun c k sc target body xs σ fl σ')
    (hR : ∀ f g' s', g.le g' → FSim c sc env σ' g' s' → FlowOk c.w g' fl f → R (.ok f) s') : codeAny (model c.prog c.w) A (.forLoop target (.ref it) body [] env) R s := by
  refine codeAny_forLoop_any (fun n s => ∃ i g₁ σ₁, n = xs.length - i ∧ i ≤ xs.length ∧ g.le g₁ ∧ FSim c sc env σ₁ (g₁.prot s.heap own) s ∧ At i g₁ s.heap ∧ ForRun c k sc target body (xs.drop i) σ₁ fl σ') ?_ xs.length ⟨0, g, σ, by simp, by simp, .refl g, F, hat, by simpa using hrun⟩
  rintro n s ⟨i, g₁, σ₁, rfl, hi, l1, F1, hat1, hrun1⟩
  have live := I.live hat1
  have fxs : ∀ a ∈ own, (g₁.prot s.heap own).fx a ≠ none := fun a m q => by
    rw [G.prot_in m] at q
    obtain ⟨o, e, _⟩ := live a m
    rw [e] at q; cases q
  have hc : ∀ a ∈ own, ∀ o, s.heap.get? a = some o → ∀ v, o.data ≠ .cell v := fun a m o e v => by
    obtain ⟨o', e', h⟩ := live a m
    rw [e] at e'; cases e'; exact h v
  have fz1 : ∀ a o, g₁.fz a = some o → s.heap.get? a = some o := F1.gs.fz
  have fzn : ∀ a ∈ own, g₁.fz a = none := fun a m => by
    cases q : g₁.fz a with
    | none => rfl
    | some o => exact absurd (F1.gs.dis _ _ q) (fxs a m)
  have fxn : ∀ a ∈ own, g₁.fx a = none := fun a m => by rw [l1.fx]; exact hfx a m
  by_cases hlast : i = xs.length
  · subst hlast
    refine wpAny_mono (I.stop (E := _) L.hd hat1 fz1 fzn (Q := fun s₁ => KeepBut own s.heap s₁.heap ∧ s₁.gens = s.gens ∧ s₁.os = s.os) fun s' a b d => ⟨a, b, d⟩) (fun r s₁ h => ?_) (fun _ _ e => e)
    obtain ⟨rfl, K, hg, ho⟩ := h
    have hrun2 : fl = .next ∧ σ' = σ₁ := by simpa [ForRun] using hrun1
    obtain ⟨rfl, rfl⟩ := hrun2
    refine wpAny_execs_nil (hR _ { g₁ with fx := g₁.fx } s₁ l1 ?_ trivial)
    exact F1.own_step fxs hc K hg ho (fx' := g₁.fx) fun a o e => by
      have hao : a ∉ own := fun m => by rw [fxn a m] at e; cases e
      have : (g₁.prot s.heap own).fx a = some o := by rw [G.prot_out hao]; exact e
      exact ⟨K _ _ hao (F1.gs.fx _ _ this), by rw [this]; simp⟩
  · have hlt : i < xs.length := by omega
    have hx : xs[i]? = some xs[i] := by simp [hlt]
    have hdrop : xs.drop i = xs[i] :: xs.drop (i + 1) := List.drop_eq_getElem_cons hlt
    rw [hdrop] at hrun1
    obtain ⟨σ2, f2, σ3, hA, hB, hF⟩ := hrun1
    refine wpAny_mono (I.step (E := _) hat1 fz1 fzn hx (Q := fun v s₁ => ∃ new, KeepBut own s.heap s₁.heap ∧ s₁.gens = s.gens ∧ s₁.os = s.os ∧ (∀ a o, new = some (a, o) → s.heap.get? a = none ∧ s₁.heap.get? a = some o) ∧ At (i + 1) (g₁.addNew new) s₁.heap ∧ Rep c.w (g₁.addNew new) v xs[i])
      fun v s' new K hg ho hn hat' rv => ⟨new, K, hg, ho, hn, hat', rv⟩) (fun r s₁ h => ?_) (fun _ _ e => e)
    obtain ⟨v, rfl, h⟩ := h
    refine wpAny_mono h (fun _ s₂ h₂ => ?_) fun _ _ e => e
    obtain ⟨new, K, hg, ho, hn, hat', rv⟩ := h₂
    have Fa : FSim c sc env σ₁ { g₁ with fx := (g₁.prot s₂.heap own).fx } s₂ := by
      have := F1.own_step fxs hc K hg ho (fx' := (g₁.prot s₂.heap own).fx) fun a o e => by
        by_cases m : a ∈ own
        · rw [G.prot_in m] at e; exact ⟨e, fxs a m⟩
        · rw [G.prot_out m] at e
          have q : (g₁.prot s.heap own).fx a = some o := by rw [G.prot_out m]; exact e
          exact ⟨K _ _ m (F1.gs.fx _ _ q), by rw [q]; simp⟩
      exact this
    have Fb : FSim c sc env σ₁ ((g₁.addNew new).prot s₂.heap own) s₂ ∧ g₁.le (g₁.addNew new) := by
      cases new with
      | none => exact ⟨Fa, .refl g₁⟩
      | some p =>
        obtain ⟨a, o⟩ := p
        obtain ⟨h1, h2⟩ := hn a o rfl
        have mua := F1.gs.fresh h1
        have hao : a ∉ own := fun m => by
          obtain ⟨o', e', _⟩ := live a m
          rw [h1] at e'; cases e'
        have l2 : g₁.le (g₁.addFz a o) := G.addFz_le mua.1
        refine ⟨⟨⟨Fa.gs.ok, fun b o' e => ?_, fun b o' e => Fa.gs.fx b o' e, fun b o' e => ?_, fun b o' e => l2.fz _ _ (Fa.gs.base _ _ e), Fa.gs.lenφ, Fa.gs.lendx, fun j r e => ?_, Fa.gs.dxn, fun d hd => ⟨?_, (Fa.gs.dxf d hd).2⟩, Fa.gs.gens, Fa.gs.os⟩,
          FS.evolve F1.gs F1.fs (fun _ _ q => q) (fun b o' q => l2.fz b o' q) (fun b o' e h _ => K _ _ (fun m => ?_) e) (fun b o' e m => ⟨?_, ?_, m.2.2⟩)⟩, l2⟩
        · by_cases q : b = a
          · subst q
            have e' : (g₁.addFz b o).fz b = some o' := e
            rw [G.addFz_self] at e'; cases e'; exact h2
          · exact Fa.gs.fz b o' (by have e' : (g₁.addFz a o).fz b = some o' := e; simpa [G.addFz, q] using e')
        · by_cases q : b = a
          · subst q
            show (g₁.prot s₂.heap own).fx b = none
            rw [G.prot_out hao]
            have := mua.2.1
            rwa [G.prot_out hao] at this
          · exact Fa.gs.dis b o' (by have e' : (g₁.addFz a o).fz b = some o' := e; simpa [G.addFz, q] using e')
        · obtain ⟨b, d, es, n, e1, e2, e3, e4, e5, e6⟩ := Fa.gs.pls j r e
          exact ⟨b, d, es, n, e1, e2, l2.fz _ _ e3, e4, RepD.mono (g := { g₁ with fx := (g₁.prot s₂.heap own).fx }) (g' := (g₁.addNew (some (a, o))).prot s₂.heap own) (fun _ _ q => q) (fun b o' q => l2.fz b o' q) e5, e6⟩
        · have q : d ≠ a := fun q => mua.2.2 (q ▸ hd)
          show (g₁.addFz a o).fz d = none
          simpa [G.addFz, q] using (Fa.gs.dxf d hd).1
        · rcases h with h | ⟨v, h⟩
          · exact fxs b m h.2.1
          · exact hc b m o' e v h
        · have q : b ≠ a := fun q => by rw [q, h1] at e; cases e
          have m1 : g₁.fz b = none := m.1
          show (g₁.addFz a o).fz b = none
          simpa [G.addFz, q] using m1
        · have hbo : b ∉ own := fun mo => fxs b mo m.2.1
          rw [G.prot_out hbo]
          have := m.2.1
          rwa [G.prot_out hbo] at this
    obtain ⟨Fb, l2⟩ := Fb
    refine hA A env _ s₂ v _ _ L V Fb (Rep.mono (g := g₁.addNew new) (g' := (g₁.addNew new).prot s₂.heap own) (fun _ _ q => q) (fun _ _ q => q) rv) fun g3 s3 l3 F3 => ?_
    refine hB A env g3 s3 _ _ L V F3 fun f g4 s4 l4 F4 hf => ?_
    have fx4 : g4.fx = ((g₁.addNew new).prot s₂.heap own).fx := l4.fx.trans l3.fx
    have live' := I.live hat'
    have own4 : ∀ a ∈ own, s4.heap.get? a = s₂.heap.get? a := fun a m => by
      obtain ⟨o, e, _⟩ := live' a m
      rw [e]
      refine F4.gs.fx a o ?_
      rw [fx4, G.prot_in m]; exact e
    have l34 : (g₁.addNew new).le { g4 with fx := g.fx } := ⟨fun i a q => (l3.trans l4).φ i a q, fun i a q => (l3.trans l4).dx i a q, fun a o q => (l3.trans l4).fz a o q, by
      show g.fx = (g₁.addNew new).fx
      rw [l2.fx, l1.fx]⟩
    have l4' : g.le { g4 with fx := g.fx } := (l1.trans l2).trans l34
    have fxnew : (g₁.addNew new).fx = g.fx := by rw [l2.fx, l1.fx]
    have g4eq : ({ g4 with fx := g.fx } : G).prot s4.heap own = g4 := by
      have : ({ g4 with fx := g.fx } : G).prot s4.heap own = { g4 with fx := (({ g4 with fx := g.fx } : G).prot s4.heap own).fx } := rfl
      rw [this]
      have hfun : (({ g4 with fx := g.fx } : G).prot s4.heap own).fx = g4.fx := by
        funext a
        rw [fx4]
        by_cases m : a ∈ own
        · rw [G.prot_in m, G.prot_in m]; exact own4 a m
        · rw [G.prot_out m, G.prot_out m, fxnew]
      rw [hfun]
    have at4 : At (i + 1) { g4 with fx := g.fx } s4.heap := I.keep hat' own4 l34.φ l34.fz
    have unguard : FSim c sc env σ3 { g4 with fx := g.fx } s4 := by
      refine F4.own_step (own := own) (fun a m q => ?_) (fun a m o e v => ?_) (fun _ _ _ e => e) rfl rfl (fx' := g.fx) fun a o e => ?_
      · rw [fx4, G.prot_in m] at q
        obtain ⟨o, e, _⟩ := live' a m
        rw [e] at q; cases q
      · rw [own4 a m] at e
        obtain ⟨o', e', h⟩ := live' a m
        rw [e] at e'; cases e'; exact h v
      · have hao : a ∉ own := fun m => by rw [hfx a m] at e; cases e
        have q : g4.fx a = some o := by rw [fx4, G.prot_out hao, fxnew]; exact e
        exact ⟨F4.gs.fx _ _ q, by rw [q]; simp⟩
    have again : ForRun c k sc target body (xs.drop (i + 1)) σ3 fl σ' → ∃ m, m < xs.length - i ∧ ∃ i g₁ σ₁, m = xs.length - i ∧ i ≤ xs.length ∧ g.le g₁ ∧ FSim c sc env σ₁ (g₁.prot s4.heap own) s4 ∧ At i g₁ s4.heap ∧ ForRun c k sc target body (xs.drop i) σ₁ fl σ' :=
      fun hr => ⟨xs.length - (i + 1), by omega, i + 1, { g4 with fx := g.fx }, σ3, rfl, by omega, l4', by rw [g4eq]; exact F4, at4, hr⟩
    cases f2 with
    | next => cases f <;> first | exact again hF | exact hf.elim
    | cont => cases f <;> first | exact again hF | exact hf.elim
    | brk =>
      obtain ⟨rfl, rfl⟩ := hF
      cases f <;> first | exact hf.elim | exact hR _ _ s4 l4' unguard trivial
    | ret p =>
      obtain ⟨rfl, rfl⟩ := hF
      cases f with
      | ret v => exact hR _ _ s4 l4' unguard (Rep.mono (g := g4) (g' := { g4 with fx := g.fx }) (fun _ _ q => q) (fun _ _ q => q) hf)
      | _ => exact hf.elim
end
end RM
end
noncomputable section
open PySem.SeqAt PySem.MeetsSeq
namespace RM
def enumPV : Nat → List PV → List PV
  | _, [] => []
  | n, y :: ys => .tup [.int n, y] :: enumPV (n + 1) ys
theorem enumPV_get : ∀ (ys : List PV) (n i : Nat), (enumPV n ys)[i]? = (ys[i]?).map fun y => .tup [.int ((n + i : Nat) : Int), y]
  | [], n, i => by simp [enumPV]
  | y :: ys, n, 0 => by simp [enumPV]
  | y :: ys, n, i + 1 => by
    have := enumPV_get ys (n + 1) i
    simp only [enumPV, List.getElem?_cons_succ, this]
    have e : n + 1 + i = n + (i + 1) := by omega
    rw [e]
theorem enumPV_length : ∀ (ys : List PV) (n : Nat), (enumPV n ys).length = ys.length
  | [], _ => rfl
  | y :: ys, n => by simp [enumPV, enumPV_length ys]
section
variable {c : KB} {k : Nat} {sc : Scope} {σ σ' σ₁ σ₂ σ₃ : St} {pl : List PRec} {g g' : G} {s s' : Shared} {env : Env}
theorem ListIter.data {h : Heap} {it l : Addr} {i : Nat} (x : h.IsListIter it l i) : ∃ o, h.get? it = some o ∧ ∀ v, o.data ≠ .cell v := by
  obtain ⟨o, e, _, d⟩ := x
  exact ⟨o, e, fun v q => by rw [d] at q; cases q⟩
def ListAt (c : KB) (xs : List PV) (it : Addr) (i : Nat) (g : G) (h : Heap) : Prop := ∃ l its n, g.fz l = some (listOf its n) ∧ Reps c.w g its.toList xs ∧ h.IsListIter it l i
theorem letGo_list {target : Expr} {it l : Addr} {i : Nat} {v : Value} {A : Around} {Q : Unit → Shared → Prop} {E : Value → Shared → Prop} (hit : s.heap.IsListIter it l i) (hQ : Q () s) : wpAny (model c.prog c.w) A (letOwnedTupleGo target (.ref it) v) Q E s := by
  obtain ⟨o, ho, hc, hd⟩ := hit
  unfold letOwnedTupleGo
  have key : ∀ (r a : Addr), r = it → wpAny (model c.prog c.w) A (do
      let o ← load r
      match o.cls, o.data with
      | .type n, .fields vs =>
        if ["enumerate", "zip", "dict_itemiterator", "dict_reverseitemiterator", "odict_iterator", "itertools.zip_longest", "itertools.pairwise"].contains n && vs[0]? == some (rawInt a) then
          rule "for.unpacks-the-owned-tuple"
          updateField r 0 .none
      | _, _ => pure ()) Q E s := by
    rintro r a rfl
    refine wpAny_bind (wpAny_load ho ?_)
    rw [hc, hd]
    dsimp only
    rw [if_neg]
    · exact wpAny_pure hQ
    · simp
  cases target <;> first
    | exact wpAny_pure hQ
    | (cases v <;> first | exact wpAny_pure hQ | exact key _ _ rfl)
theorem iter_list {target : Expr} {xs : List PV} {it : Addr} : Iter c target xs it [it] (ListAt c xs it) where
  keep := by
    rintro i g g' h h' ⟨l, its, n, e, r, hit⟩ ho hφ hz
    obtain ⟨o, e', hd⟩ := hit
    exact ⟨l, its, n, hz _ _ e, r.mono hφ hz, o, (ho it (by simp)).trans e', hd⟩
  live := by
    rintro i g h ⟨l, its, n, e, r, hit⟩ a ha
    rw [List.mem_singleton] at ha; subst ha
    exact ListIter.data hit
  step := by
    rintro i g s x A Q E ⟨l, its, n, e, r, hit⟩ hz hown hx hQ
    obtain ⟨v, hv, rv⟩ := r.get hx
    refine wpAny_pyNext_list_item hit (IsList_of (hz _ _ e)) (x := v) (by simpa using hv) fun h' hit' hs => ⟨v, rfl, ?_⟩
    refine letGo_list (s := { s with heap := h' }) hit' ?_
    exact hQ v _ none (fun b o hb e => (hs.2 b (by simpa using hb)).trans e) rfl rfl (fun _ _ q => by cases q) ⟨l, its, n, e, r, hit'⟩ rv
  stop := by
    rintro g s A Q E hh ⟨l, its, n, e, r, hit⟩ hz hown hQ
    have hl := r.length
    refine wpAny_pyNext_list_end hh hit (IsList_of (hz _ _ e)) (by simp at hl ⊢; omega) fun h' hs => ⟨rfl, ?_⟩
    exact hQ _ (fun b o hb e => hs b o (by simpa using hb) e) rfl rfl
theorem tr_for {target iter : Expr} {body : List Stmt} {pos : Pos} {xs : List PV} {fl : Fl} (he : TrE c k sc σ iter (.list xs) σ₁) (hr : ForRun c k sc target body xs σ₁ fl σ') (hs : ∀ env x, foldedSetIterable iter env x = pure x) : TrS c k sc σ (.For target iter body [] pos) fl σ' := by
  intro A env g s Q E L V F hQ
  refine wpAny_For (he A env g s _ E L V F fun v g' s' N rv => ?_) (hs env)
  cases rv with
  | list e r sz =>
    rename_i l its n
    refine wpAny_pyIter_list (IsList_of (N.sim.gs.fz _ _ e)) ?_
    have K := push_ext s'.heap { cls := .type "list_iterator", data := .fields #[.ref l, .int 0 0] }
    have F' := N.sim.prot (own := [s'.heap.objs.size]) (s' := { s' with heap := s'.heap.push { cls := .type "list_iterator", data := .fields #[.ref l, .int 0 0] } }) K rfl rfl (fun a ha => by rw [List.mem_singleton] at ha; subst ha; exact push_none _)
    refine for_loop (s := { s' with heap := s'.heap.push { cls := .type "list_iterator", data := .fields #[.ref l, .int 0 0] } }) (g := g') iter_list L V F' ⟨l, its, n, e, r, _, Heap.get?_push_size _ rfl, rfl, rfl⟩
      (fun a ha => by rw [List.mem_singleton] at ha; subst ha; exact (N.sim.gs.fresh (push_none _)).2.1) hr fun f g'' s'' l F'' hf => ?_
    exact hQ f g'' s'' (N.le.trans l) F'' hf
def keysPV (kvs : List (Str × PV)) : List PV := kvs.map fun p => .str p.1
theorem pairs_rep : ∀ {es : List DictEntry} {kvs : List (Str × PV)}, RepD c.w g es kvs → ∃ kv2 : List (Str × Value), PySem.Pairs (strKind c.prog c.w) es kv2 ∧ kv2.map (·.1) = kvs.map (·.1)
  | _, _, .nil => ⟨[], .nil, rfl⟩
  | _, _, .cons (k := ky) (t := t) (v := v) rv rd => by
    obtain ⟨l, h1, h2⟩ := pairs_rep rd
    exact ⟨(ky, v) :: l, .cons (strKind_is _ _ _ _) rfl h1, by simp [h2]⟩
theorem dictAt_rep {a : Addr} {es : List DictEntry} {n : Nat} {kvs : List (Str × PV)} {h : Heap} (e : h.get? a = some (dictOf es n)) (r : RepD c.w g es kvs) (nd : (kvs.map (·.1)).Nodup) : ∃ kv2 : List (Str × Value), h.DictAt (strKind c.prog c.w) a kv2 n ∧ kv2.map (·.1) = kvs.map (·.1) := by
  obtain ⟨kv2, h1, h2⟩ := pairs_rep r
  exact ⟨kv2, ⟨_, _, e, ⟨rfl, rfl, rfl⟩, rfl, fun e he => keysOf_rep r e (by simpa using he), by simpa using h1, by rw [h2]; exact nd⟩, h2⟩
def KeyAt (c : KB) (kvs : List (Str × PV)) (it : Addr) (i : Nat) (g : G) (h : Heap) : Prop := ∃ d es n, g.fz d = some (dictOf es n) ∧ RepD c.w g es kvs ∧ (kvs.map (·.1)).Nodup ∧ h.IsKeyIter it d i kvs.length n
theorem letGo_key {target : Expr} {it d : Addr} {i n m : Nat} {v : Value} {A : Around} {Q : Unit → Shared → Prop} {E : Value → Shared → Prop} (hv : ∀ a, v ≠ .ref a) (hQ : Q () s) : wpAny (model c.prog c.w) A (letOwnedTupleGo target (.ref it) v) Q E s := by
  unfold letOwnedTupleGo
  cases target <;> first
    | exact wpAny_pure hQ
    | (cases v <;> first | exact wpAny_pure hQ | exact absurd rfl (hv _))
theorem iter_key {target : Expr} {kvs : List (Str × PV)} {it : Addr} : Iter c target (keysPV kvs) it [it] (KeyAt c kvs it) where
  keep := by
    rintro i g g' h h' ⟨d, es, n, e, r, nd, hit⟩ ho hφ hz
    obtain ⟨o, e', hd⟩ := hit
    exact ⟨d, es, n, hz _ _ e, r.mono hφ hz, nd, o, (ho it (by simp)).trans e', hd⟩
  live := by
    rintro i g h ⟨d, es, n, e, r, nd, hit⟩ a ha
    rw [List.mem_singleton] at ha; subst ha
    obtain ⟨o, e, _, dd⟩ := hit
    exact ⟨o, e, fun v q => by rw [dd] at q; cases q⟩
  step := by
    rintro i g s x A Q E ⟨d, es, n, e, r, nd, hit⟩ hz hown hx hQ
    obtain ⟨kv2, hd, hk⟩ := dictAt_rep (c := c) (hz _ _ e) r nd
    have hl : kv2.length = kvs.length := by have := congrArg List.length hk; simpa using this
    have hx' : (kvs.map (·.1))[i]?.map PV.str = some x := by rw [← hx]; simp [keysPV, Function.comp_def]
    obtain ⟨kx, hkx, rfl⟩ := Option.map_eq_some_iff.mp hx'
    rw [← hk, List.getElem?_map] at hkx
    obtain ⟨⟨k1, v1⟩, hkv, rfl⟩ := Option.map_eq_some_iff.mp hkx
    rw [← hl] at hit
    refine wpAny_pyNext_dict_item hit hd hkv fun key h' hkey hit' hs => ⟨key, rfl, ?_⟩
    obtain ⟨t, rfl⟩ := Value.isStrOf_shape hkey
    refine letGo_key (d := 0) (i := 0) (n := 0) (m := 0) (fun a q => by cases q) ?_
    rw [hl] at hit'
    exact hQ _ _ none (fun b o hb e => (hs.2 b (by simpa using hb)).trans e) rfl rfl (fun _ _ q => by cases q) ⟨d, es, n, e, r, nd, hit'⟩ (.str _ _)
  stop := by
    rintro g s A Q E hh ⟨d, es, n, e, r, nd, hit⟩ hz hown hQ
    obtain ⟨kv2, hd, hk⟩ := dictAt_rep (c := c) (hz _ _ e) r nd
    have hl : kv2.length = kvs.length := by have := congrArg List.length hk; simpa using this
    rw [← hl] at hit
    refine wpAny_pyNext_dict_end hh hit hd (by simp [keysPV]; omega) fun h' hs => ⟨rfl, ?_⟩
    exact hQ _ (fun b o hb e => hs b o (by simpa using hb) e) rfl rfl
theorem pyIter_key {v : Value} {kvs : List (Str × PV)} {A : Around} {Q : Value → Shared → Prop} {E : Value → Shared → Prop} (X : GS c pl g s) (rv : Rep c.w g v (.dict kvs))
    (hQ : ∀ o, s.heap.get? s.heap.objs.size = none → KeyAt c kvs s.heap.objs.size 0 g (s.heap.push o) → Q (.ref s.heap.objs.size) { s with heap := s.heap.push o }) : wpAny (model c.prog c.w) A (pyIter v) Q E s := by
  cases rv with
  | dict q e r nd sz =>
    rename_i d es n
    obtain ⟨kv2, hd, hk⟩ := dictAt_rep (c := c) (X.fz _ _ e) r nd
    have hl : kv2.length = kvs.length := by have := congrArg List.length hk; simpa using this
    refine wpAny_pyIter_dict q hd (hQ _ (push_none _) ⟨d, es, n, e, r, nd, ?_⟩)
    rw [← hl]
    exact ⟨_, Heap.get?_push_size _ rfl, rfl, rfl⟩
theorem tr_for_dict {target iter : Expr} {body : List Stmt} {pos : Pos} {kvs : List (Str × PV)} {fl : Fl} (he : TrE c k sc σ iter (.dict kvs) σ₁) (hr : ForRun c k sc target body (keysPV kvs) σ₁ fl σ') (hs : ∀ env x, foldedSetIterable iter env x = pure x) : TrS c k sc σ (.For target iter body [] pos) fl σ' := by
  intro A env g s Q E L V F hQ
  refine wpAny_For (he A env g s _ E L V F fun v g' s' N rv => ?_) (hs env)
  refine pyIter_key N.sim.gs rv fun o hn hat => ?_
  have K := push_ext s'.heap o
  have F' := N.sim.prot (own := [s'.heap.objs.size]) (s' := { s' with heap := s'.heap.push o }) K rfl rfl (fun a ha => by rw [List.mem_singleton] at ha; subst ha; exact push_none _)
  refine for_loop (s := { s' with heap := s'.heap.push o }) (g := g') iter_key L V F' hat
    (fun a ha => by rw [List.mem_singleton] at ha; subst ha; exact (N.sim.gs.fresh (push_none _)).2.1) hr fun f g'' s'' l F'' hf => ?_
  exact hQ f g'' s'' (N.le.trans l) F'' hf
def EnumAt (c : KB) (ys : List PV) (e it : Addr) (i : Nat) (g : G) (h : Heap) : Prop := ∃ l its n old, g.fz l = some (listOf its n) ∧ Reps c.w g its.toList ys ∧ e ≠ it ∧ IsEnum h e it i old ∧ h.IsListIter it l i
theorem iter_enum {elts : List Expr} {x1 : Nat} {tp : Pos} {ys : List PV} {e it : Addr} : Iter c (.Tuple elts x1 tp) (enumPV 0 ys) e [e, it] (EnumAt c ys e it) where
  keep := by
    rintro i g g' h h' ⟨l, its, n, old, hl, r, ne, he, hit⟩ ho hφ hz
    obtain ⟨o, e', hd⟩ := hit
    exact ⟨l, its, n, old, hz _ _ hl, r.mono hφ hz, ne, (ho e (by simp)).trans he, o, (ho it (by simp)).trans e', hd⟩
  live := by
    rintro i g h ⟨l, its, n, old, hl, r, ne, he, hit⟩ a ha
    rcases List.mem_cons.mp ha with rfl | ha
    · exact ⟨_, he, fun v q => by cases q⟩
    · rw [List.mem_singleton] at ha; subst ha; exact ListIter.data hit
  step := by
    rintro i g s x A Q E ⟨l, its, n, old, hl, r, ne, he, hit⟩ hz hown hx hQ
    rw [enumPV_get] at hx
    obtain ⟨y, hy, rfl⟩ := Option.map_eq_some_iff.mp hx
    obtain ⟨v, hv, rv⟩ := r.get hy
    refine wpAny_pyNext_enum_item he hit (IsList_of (hz _ _ hl)) (x := v) (by simpa using hv) ne fun h' ho' hit' ht hsz hk => ⟨_, rfl, ?_⟩
    refine wpAny_letOwnedTupleGo_enum (s := { s with heap := h', toks := s.toks + 1 }) ho' fun h2 he2 hs2 => ?_
    replace hs2 : Heap.SameBut e h' h2 := hs2
    have nee : s.heap.objs.size ≠ e := fun q => absurd (Heap.lt_size he) (by rw [← q]; exact Nat.lt_irrefl _)
    have nei : s.heap.objs.size ≠ it := fun q => by
      obtain ⟨o, e', _⟩ := hit
      exact absurd (Heap.lt_size e') (by rw [← q]; exact Nat.lt_irrefl _)
    have l' := G.addFz_le (g := g) (a := s.heap.objs.size) (o := tupOf #[.int i s.toks, v] 0) (by
      cases q : g.fz s.heap.objs.size with
      | none => rfl
      | some o => exact absurd (Heap.lt_size (hz _ _ q)) (Nat.lt_irrefl _))
    refine hQ _ { s with heap := h2, toks := s.toks + 1 } (some (s.heap.objs.size, tupOf #[.int i s.toks, v] 0)) (fun b o hb e' => ?_) rfl rfl (fun a o q => ?_) ?_ ?_
    · simp only [List.mem_cons, List.not_mem_nil, or_false, not_or] at hb
      exact (hs2.2 b hb.1).trans (hk b o hb.1 hb.2 e')
    · cases q
      exact ⟨push_none _, (hs2.2 _ nee).trans ht⟩
    · refine ⟨l, its, n, v, l'.fz _ _ hl, r.le l', ne, ?_, ?_⟩
      · have : ((i + 1 : Nat) : Int) = (i : Int) + 1 := by push_cast; rfl
        rw [this]; exact he2
      · obtain ⟨o, e', hd⟩ := hit'
        exact ⟨o, (hs2.2 it (Ne.symm ne)).trans e', hd⟩
    · refine .tup (G.addFz_self ..) ?_ (by rw [sizeLine_eq]; simp)
      simp only [Nat.zero_add]
      exact .cons (.int _ _) (.cons (rv.le l') .nil)
  stop := by
    rintro g s A Q E hh ⟨l, its, n, old, hl, r, ne, he, hit⟩ hz hown hQ
    have hlen := r.length
    rw [enumPV_length] at he hit
    refine wpAny_pyNext_enum_end hh he hit (IsList_of (hz _ _ hl)) (by simp at hlen ⊢; omega) fun h' hs => ⟨rfl, ?_⟩
    exact hQ _ (fun b o hb e' => hs b o (fun q => hb (by simp [q])) e') rfl rfl
theorem tr_for_enum {elts : List Expr} {x1 : Nat} {tp p' p2 pos : Pos} {e : Expr} {body : List Stmt} {ys : List PV} {fl : Fl} {i : Nat} (hi : vloc sc "enumerate" = some (i, .globalImplicit)) (hg : c.mg "enumerate" = none) (hp : PlainArgs [e]) (he : TrE c k sc σ e (.list ys) σ₁)
    (hr : ForRun c k sc (.Tuple elts x1 tp) body (enumPV 0 ys) σ₁ fl σ') : TrS c k sc σ (.For (.Tuple elts x1 tp) (.Call (.Name "enumerate" p') [e] [] p2) body [] pos) fl σ' := by
  intro A env g s Q E L V F hQ
  refine wpAny_For ?_ (fun _ => rfl)
  refine wpAny_Call_NameR (load_builtin V F.gs hi hg (by decide +kernel : bootBuiltins "enumerate" = some (.type "enumerate")) (by decide +kernel) ?_)
  have hE : starEach [e] env = [(false, eval e env)] := by have := hp env; simpa [starEach, evalEach] using this
  rw [hE]
  refine PySem.callWith_type rfl (Calls.evalArgs_plain (Calls.spliced_cons ?_))
  refine he A env g s _ E L V F fun v g' s' N rv => Calls.spliced_nil ?_
  cases rv with
  | list e r sz =>
    rename_i l its n
    refine call_enumerate_list (IsList_of (N.sim.gs.fz _ _ e)) fun h' hen hli hsz K => ?_
    refine wpAny_pyIter_enum hen ?_
    have hn2 : ∀ a ∈ [s'.heap.objs.size + 1, s'.heap.objs.size], s'.heap.get? a = none := fun a ha => by
      apply get_none_of_ge
      rcases List.mem_cons.mp ha with rfl | ha
      · exact Nat.le_succ _
      · rw [List.mem_singleton] at ha; subst ha; exact Nat.le_refl _
    have F' := N.sim.prot (own := [s'.heap.objs.size + 1, s'.heap.objs.size]) (s' := { s' with heap := h' }) K rfl rfl hn2
    refine for_loop (s := { s' with heap := h' }) (g := g') iter_enum L V F'
      ⟨l, its, n, .none, e, r, Nat.succ_ne_self _, hen, hli⟩
      (fun a ha => (N.sim.gs.fresh (hn2 a ha)).2.1) hr fun f g'' s'' l F'' hf => ?_
    exact hQ f g'' s'' (N.le.trans l) F'' hf
end
end RM
end
noncomputable section
open PySem.SeqAt PySem.MeetsSeq
namespace RM
inductive WhileRun (c : KB) (k : Nat) (sc : Scope) (test : Expr) (body : List Stmt) : Nat → St → Fl → St → Prop
  | stop {σ σ₁ : St} : TrT c k sc σ test false σ₁ → WhileRun c k sc test body 0 σ .next σ₁
  | turn {n : Nat} {σ σ₁ σ₂ σ' : St} {fl : Fl} : TrT c k sc σ test true σ₁ → TrSs c k sc σ₁ body .next σ₂ → WhileRun c k sc test body n σ₂ fl σ' → WhileRun c k sc test body (n + 1) σ fl σ'
  | brk {σ σ₁ σ₂ : St} : TrT c k sc σ test true σ₁ → TrSs c k sc σ₁ body .brk σ₂ → WhileRun c k sc test body 0 σ .next σ₂
def TrIfs (c : KB) (k : Nat) (sc : Scope) (σ : St) (ifs : List Expr) (b : Bool) (σ' : St) : Prop :=
  match ifs with
  | [] => b = true ∧ σ' = σ
  | [t] => TrT c k sc σ t b σ'
  | _ => False
def CompRun (c : KB) (k : Nat) (sc : Scope) (target : Expr) (ifs : List Expr) (elt : Expr) : List PV → St → List PV → St → Prop
  | [], σ, out, σ' => out = [] ∧ σ' = σ
  | x :: xs, σ, out, σ' => ∃ σ₁ b σ₂, TrA c k sc σ target x σ₁ ∧ TrIfs c k sc σ₁ ifs b σ₂ ∧
      (if b = true then ∃ p σ₃ out', TrE c k sc σ₂ elt p σ₃ ∧ CompRun c k sc target ifs elt xs σ₃ out' σ' ∧ out = p :: out' else CompRun c k sc target ifs elt xs σ₂ out σ')
theorem cellsFrom_spec : ∀ (names : List (Str × NameKind)) (h : Heap) (acc : List (Str × Addr)), (names.map (·.1)).Nodup →
    (∀ x, (x, NameKind.cell) ∈ names → ∃ a, (cellsFrom h.objs.size names acc).lookup x = some a ∧ h.objs.size ≤ a ∧ (pushCells h names).get? a = some { cls := .type "cell", data := .cell none }) ∧
    (∀ x, (x, NameKind.cell) ∉ names → (cellsFrom h.objs.size names acc).lookup x = acc.lookup x) ∧
    (∀ x y a, (x, NameKind.cell) ∈ names → (y, NameKind.cell) ∈ names → (cellsFrom h.objs.size names acc).lookup x = some a → (cellsFrom h.objs.size names acc).lookup y = some a → x = y)
  | [], h, acc, _ => ⟨fun _ m => (by cases m), fun _ _ => rfl, fun _ _ _ m => (by cases m)⟩
  | (name, kind) :: r, h, acc, nd => by
    simp only [List.map_cons, List.nodup_cons] at nd
    unfold cellsFrom pushCells
    by_cases hk : (kind == NameKind.cell) = true
    · rw [if_pos hk, if_pos hk]
      have hkc : kind = .cell := by simpa using hk
      subst hkc
      have ih := cellsFrom_spec r (h.push { cls := .type "cell", data := .cell none }) ((name, h.objs.size) :: acc) nd.2
      rw [Heap.size_push] at ih
      obtain ⟨i1, i2, i3⟩ := ih
      have nr : (name, NameKind.cell) ∉ r := fun m => nd.1 (List.mem_map.mpr ⟨_, m, rfl⟩)
      have hname : (cellsFrom (h.objs.size + 1) r ((name, h.objs.size) :: acc)).lookup name = some h.objs.size := by rw [i2 name nr]; simp [List.lookup_cons]
      refine ⟨fun x m => ?_, fun x m => ?_, fun x y a mx my ex ey => ?_⟩
      · rcases List.mem_cons.mp m with e | m
        · cases e
          exact ⟨_, hname, Nat.le_refl _, pushCells_keeps _ _ _ _ (Heap.get?_push_size _ rfl)⟩
        · obtain ⟨a, e1, e2, e3⟩ := i1 x m
          exact ⟨a, e1, Nat.le_of_succ_le e2, e3⟩
      · have hx : x ≠ name := fun e => m (by rw [e]; exact List.mem_cons_self)
        rw [i2 x (fun q => m (List.mem_cons_of_mem _ q)), List.lookup_cons]
        have : (x == name) = false := by simpa using hx
        rw [this]
      · rcases List.mem_cons.mp mx with e | mx <;> rcases List.mem_cons.mp my with e' | my
        · cases e; cases e'; rfl
        · cases e
          rw [hname] at ex; cases ex
          obtain ⟨a, e1, e2, _⟩ := i1 y my
          rw [ey] at e1; cases e1; omega
        · cases e'
          rw [hname] at ey; cases ey
          obtain ⟨a, e1, e2, _⟩ := i1 x mx
          rw [ex] at e1; cases e1; omega
        · exact i3 x y a mx my ex ey
    · rw [if_neg hk, if_neg hk]
      obtain ⟨i1, i2, i3⟩ := cellsFrom_spec r h acc nd.2
      have hkc : kind ≠ .cell := by simpa using hk
      have ne : ∀ {x}, (x, NameKind.cell) ∈ ((name, kind) :: r) → (x, NameKind.cell) ∈ r := fun {x} m => by
        rcases List.mem_cons.mp m with e | m
        · cases e; exact absurd rfl hkc
        · exact m
      exact ⟨fun x m => i1 x (ne m), fun x m => i2 x fun q => m (List.mem_cons_of_mem _ q), fun x y a mx my => i3 x y a (ne mx) (ne my)⟩
theorem closureFor_ok {scope : Scope} {env : Env} (nd : (scope.names.map (·.1)).Nodup) (h : ∀ x, (x, NameKind.free) ∈ scope.names → (env.cells.lookup x).isSome = true) :
    ∃ cl, closureFor scope env = pure cl ∧ (∀ x, (x, NameKind.free) ∈ scope.names → cl.lookup x = env.cells.lookup x) := by
  have key : ∀ (names : List (Str × NameKind)) (acc : List (Str × Addr)), (names.map (·.1)).Nodup → (∀ x, (x, NameKind.free) ∈ names → (env.cells.lookup x).isSome = true) →
      ∃ cl, (forIn names acc fun (p : Str × NameKind) (cs : List (Str × Addr)) => (if (p.2 == NameKind.free) = true then (do let a ← cellOf env p.1; pure (ForInStep.yield ((p.1, a) :: cs))) else pure (ForInStep.yield cs) : Sem (ForInStep (List (Str × Addr))))) = pure cl ∧
        (∀ x, (x, NameKind.free) ∈ names → cl.lookup x = env.cells.lookup x) ∧ (∀ x, (x, NameKind.free) ∉ names → cl.lookup x = acc.lookup x) := by
    intro names
    induction names with
    | nil => intro acc _ _; exact ⟨acc, rfl, fun _ m => (by cases m), fun _ _ => rfl⟩
    | cons p r ih =>
      intro acc nd h
      obtain ⟨name, kind⟩ := p
      simp only [List.map_cons, List.nodup_cons] at nd
      rw [List.forIn_cons]
      by_cases hk : (kind == NameKind.free) = true
      · have hkc : kind = .free := by simpa using hk
        subst hkc
        obtain ⟨a, ha⟩ := Option.isSome_iff_exists.mp (h name (by simp))
        obtain ⟨cl, e, h1, h2⟩ := ih ((name, a) :: acc) nd.2 (fun x m => h x (List.mem_cons_of_mem _ m))
        have nr : (name, NameKind.free) ∉ r := fun m => nd.1 (List.mem_map.mpr ⟨_, m, rfl⟩)
        refine ⟨cl, ?_, fun x m => ?_, fun x m => ?_⟩
        · simp only [hk, if_true, cellOf, ha]
          exact e
        · rcases List.mem_cons.mp m with e' | m
          · cases e'; rw [h2 name nr, ha]; simp [List.lookup_cons]
          · exact h1 x m
        · have hx : x ≠ name := fun e => m (by rw [e]; exact List.mem_cons_self)
          rw [h2 x (fun q => m (List.mem_cons_of_mem _ q)), List.lookup_cons]
          have : (x == name) = false := by simpa using hx
          rw [this]
      · obtain ⟨cl, e, h1, h2⟩ := ih acc nd.2 (fun x m => h x (List.mem_cons_of_mem _ m))
        have hkc : kind ≠ .free := by simpa using hk
        refine ⟨cl, ?_, fun x m => ?_, fun x m => ?_⟩
        · simp only [hk, Bool.false_eq_true, if_false]; exact e
        · rcases List.mem_cons.mp m with e' | m
          · cases e'; exact absurd rfl hkc
          · exact h1 x m
        · exact h2 x fun q => m (List.mem_cons_of_mem _ q)
  obtain ⟨cl, e, h1, _⟩ := key scope.names [] nd h
  refine ⟨cl, ?_, h1⟩
  unfold closureFor
  exact congrArg (fun t => t >>= fun s => (pure s : Sem (List (Str × Addr)))) e
theorem lookup_relabel {scope : Scope} {env : Env} {x : Str} : ∀ {names : List (Str × NameKind)},
    (names.map fun (n, k) => if (k == NameKind.free && env.scope.kind == .function && env.kindOf n == some .cell) then (n, NameKind.cell) else (n, k)).lookup x =
      (names.lookup x).map fun k => if (k == NameKind.free && env.scope.kind == .function && env.kindOf x == some .cell) then NameKind.cell else k
  | [] => rfl
  | (n, k) :: r => by
    have ih := lookup_relabel (scope := scope) (env := env) (x := x) (names := r)
    rw [List.map_cons, List.lookup_cons]
    cases hx : x == n with
    | true =>
      have hxn : x = n := by simpa using hx
      subst hxn
      by_cases hc : (k == NameKind.free && env.scope.kind == .function && env.kindOf x == some .cell) = true
      · simp only [hc, if_true, List.lookup_cons, beq_self_eq_true, Option.map_some]
      · simp only [hc, Bool.false_eq_true, if_false, List.lookup_cons, beq_self_eq_true, Option.map_some]
    | false =>
      by_cases hc : (k == NameKind.free && env.scope.kind == .function && env.kindOf n == some .cell) = true
      · simp only [hc, if_true, List.lookup_cons, hx]; exact ih
      · simp only [hc, Bool.false_eq_true, if_false, List.lookup_cons, hx]; exact ih
def capVs (scO : Scope) (vs : List (Option Bind)) (scI : Scope) : Option (List (Option Bind)) := scI.names.mapM fun p =>
  if p.2 == .free then
    (match vloc scO p.1 with
     | some (i, .cell) => (match vs[i]? with | some (some (.val q)) => some (some (.val q)) | _ => none)
     | some (i, .free) => (match vs[i]? with | some (some (.val q)) => some (some (.val q)) | _ => none)
     | _ => none)
  else some none
section
variable {c : KB} {k : Nat} {sc : Scope} {σ σ' σ₁ σ₂ σ₃ : St} {pl : List PRec} {g g' : G} {s s' : Shared} {env : Env}
theorem tr_while {test : Expr} {body : List Stmt} {pos : Pos} {n : Nat} {fl : Fl} (h : WhileRun c k sc test body n σ fl σ') : TrS c k sc σ (.While test body [] pos) fl σ' := by
  intro A env g s Q E L V F hQ
  refine wpAny_While (codeAny_whileLoop (fun n s => ∃ g₁ σ₁, g.le g₁ ∧ FSim c sc env σ₁ g₁ s ∧ WhileRun c k sc test body n σ₁ fl σ') ?_ n ⟨g, σ, .refl g, F, h⟩)
  rintro n s ⟨g₁, σ₁, l₁, F₁, h₁⟩
  cases h₁ with
  | stop ht =>
    refine ht A env g₁ s _ _ L V F₁ fun g' s' N => ?_
    exact wpAny_execs_nil (hQ _ g' s' (l₁.trans N.le) N.sim trivial)
  | turn ht hb hr =>
    refine ht A env g₁ s _ _ L V F₁ fun g' s' N => ?_
    refine hb A env g' s' _ _ L V N.sim fun f g'' s'' l'' F'' hf => ?_
    cases f with
    | next => exact ⟨_, Nat.lt_succ_self _, g'', _, (l₁.trans N.le).trans l'', F'', hr⟩
    | _ => exact hf.elim
  | brk ht hb =>
    refine ht A env g₁ s _ _ L V F₁ fun g' s' N => ?_
    refine hb A env g' s' _ _ L V N.sim fun f g'' s'' l'' F'' hf => ?_
    cases f with
    | brk => exact hQ _ g'' s'' ((l₁.trans N.le).trans l'') F'' trivial
    | _ => exact hf.elim
theorem guard_turn {own : List Addr} {g₁ : G} {s₂ : Shared} {new : Option (Addr × Obj)} (F1 : FSim c sc env σ (g₁.prot s.heap own) s) (live : ∀ a ∈ own, ∃ o, s.heap.get? a = some o ∧ ∀ v, o.data ≠ .cell v) (K : KeepBut own s.heap s₂.heap) (hg : s₂.gens = s.gens) (ho : s₂.os = s.os)
    (hn : ∀ a o, new = some (a, o) → s.heap.get? a = none ∧ s₂.heap.get? a = some o) : FSim c sc env σ ((g₁.addNew new).prot s₂.heap own) s₂ ∧ g₁.le (g₁.addNew new) := by
  have fxs : ∀ a ∈ own, (g₁.prot s.heap own).fx a ≠ none := fun a m q => by
    rw [G.prot_in m] at q
    obtain ⟨o, e, _⟩ := live a m
    rw [e] at q; cases q
  have hc : ∀ a ∈ own, ∀ o, s.heap.get? a = some o → ∀ v, o.data ≠ .cell v := fun a m o e v => by
    obtain ⟨o', e', h⟩ := live a m
    rw [e] at e'; cases e'; exact h v
  have Fa : FSim c sc env σ { g₁ with fx := (g₁.prot s₂.heap own).fx } s₂ := by
    have := F1.own_step fxs hc K hg ho (fx' := (g₁.prot s₂.heap own).fx) fun a o e => by
      by_cases m : a ∈ own
      · rw [G.prot_in m] at e; exact ⟨e, fxs a m⟩
      · rw [G.prot_out m] at e
        have q : (g₁.prot s.heap own).fx a = some o := by rw [G.prot_out m]; exact e
        exact ⟨K _ _ m (F1.gs.fx _ _ q), by rw [q]; simp⟩
    exact this
  cases new with
  | none => exact ⟨Fa, .refl g₁⟩
  | some p =>
    obtain ⟨a, o⟩ := p
    obtain ⟨h1, h2⟩ := hn a o rfl
    have mua := F1.gs.fresh h1
    have hao : a ∉ own := fun m => by
      obtain ⟨o', e', _⟩ := live a m
      rw [h1] at e'; cases e'
    have l2 : g₁.le (g₁.addFz a o) := G.addFz_le mua.1
    refine ⟨⟨⟨Fa.gs.ok, fun b o' e => ?_, fun b o' e => Fa.gs.fx b o' e, fun b o' e => ?_, fun b o' e => l2.fz _ _ (Fa.gs.base _ _ e), Fa.gs.lenφ, Fa.gs.lendx, fun j r e => ?_, Fa.gs.dxn, fun d hd => ⟨?_, (Fa.gs.dxf d hd).2⟩, Fa.gs.gens, Fa.gs.os⟩,
      FS.evolve F1.gs F1.fs (fun _ _ q => q) (fun b o' q => l2.fz b o' q) (fun b o' e h _ => K _ _ (fun m => ?_) e) (fun b o' e m => ⟨?_, ?_, m.2.2⟩)⟩, l2⟩
    · by_cases q : b = a
      · subst q
        have e' : (g₁.addFz b o).fz b = some o' := e
        rw [G.addFz_self] at e'; cases e'; exact h2
      · exact Fa.gs.fz b o' (by have e' : (g₁.addFz a o).fz b = some o' := e; simpa [G.addFz, q] using e')
    · by_cases q : b = a
      · subst q
        show (g₁.prot s₂.heap own).fx b = none
        rw [G.prot_out hao]
        have := mua.2.1
        rwa [G.prot_out hao] at this
      · exact Fa.gs.dis b o' (by have e' : (g₁.addFz a o).fz b = some o' := e; simpa [G.addFz, q] using e')
    · obtain ⟨b, d, es, n, e1, e2, e3, e4, e5, e6⟩ := Fa.gs.pls j r e
      exact ⟨b, d, es, n, e1, e2, l2.fz _ _ e3, e4, RepD.mono (g := { g₁ with fx := (g₁.prot s₂.heap own).fx }) (g' := (g₁.addNew (some (a, o))).prot s₂.heap own) (fun _ _ q => q) (fun b o' q => l2.fz b o' q) e5, e6⟩
    · have q : d ≠ a := fun q => mua.2.2 (q ▸ hd)
      show (g₁.addFz a o).fz d = none
      simpa [G.addFz, q] using (Fa.gs.dxf d hd).1
    · rcases h with h | ⟨v, h⟩
      · exact fxs b m h.2.1
      · exact hc b m o' e v h
    · have q : b ≠ a := fun q => by rw [q, h1] at e; cases e
      have m1 : g₁.fz b = none := m.1
      show (g₁.addFz a o).fz b = none
      simpa [G.addFz, q] using m1
    · have hbo : b ∉ own := fun mo => fxs b mo m.2.1
      rw [G.prot_out hbo]
      have := m.2.1
      rwa [G.prot_out hbo] at this
theorem ifs_wp {ifs : List Expr} {b : Bool} {A : Around} {Q : Bool → Shared → Prop} {E : Value → Shared → Prop} (h : TrIfs c k sc σ ifs b σ') (L : Lim k A) (V : EnvSc env sc) (F : FSim c sc env σ g s) (hQ : ∀ g' s', g.le g' → FSim c sc env σ' g' s' → Q b s') :
    wpAny (model c.prog c.w) A (forIn ifs true fun c r => if r = true then do let ok ← isTrue c env (eval c env); pure (ForInStep.yield ok) else pure (ForInStep.yield r)) Q E s := by
  match ifs, h with
  | [], h => obtain ⟨rfl, rfl⟩ := h; exact wpAny_tests_nil (hQ g s (.refl g) F)
  | [t], h => exact wpAny_tests_one (h A env g s Q E L V F fun g' s' N => hQ g' s' N.le N.sim)
  | _ :: _ :: _, h => exact h.elim
theorem comp_loop {elt target iter : Expr} {ifs : List Expr} {scope : Scope} {pos : Pos} {xs total : List PV} {it D : Addr} {own : List Addr} {At : Nat → G → Heap → Prop} {A : Around} {R : Result → Shared → Prop}
    (I : Iter c target xs it own At) (L : Lim k A) (V : EnvSc env sc) (F : FSim c sc env σ (g.prot s.heap (D :: own)) s) (hat : At 0 g s.heap) (hD : D ∉ own) (hget : s.heap.get? D = some (listOf #[] 0)) (hrun : CompRun c k sc target ifs elt xs σ total σ') (hlen : xs.length ≤ 100000)
    (hR : ∀ g' s' its n, g.le g' → FSim c sc env σ' (g'.prot s'.heap (D :: own)) s' → s'.heap.get? D = some (listOf its n) → Reps c.w g' its.toList total → its.size ≤ sizeLine → R (.ok .next) s') : codeAny (model c.prog c.w) A (.compLoop (.ListComp elt [⟨target, iter, ifs, 0⟩] scope pos) 0 (.ref it) (.ref D) env) R s := by
  refine codeAny_loop rfl (fun n s => ∃ i g₁ σ₁ acc its m out, n = xs.length - i ∧ i ≤ xs.length ∧ g.le g₁ ∧ FSim c sc env σ₁ (g₁.prot s.heap (D :: own)) s ∧ At i g₁ s.heap ∧ s.heap.get? D = some (listOf its m) ∧ Reps c.w g₁ its.toList acc ∧ acc.length ≤ i ∧ CompRun c k sc target ifs elt (xs.drop i) σ₁ out σ' ∧ total = acc ++ out)
    ?_ xs.length ⟨0, g, σ, [], #[], 0, total, by simp, by simp, .refl g, F, hat, hget, .nil, by simp, by simpa using hrun, by simp⟩
  rintro n s ⟨i, g₁, σ₁, acc, its, m, out, rfl, hi, l1, F1, hat1, hget1, racc, hacc, hrun1, htot⟩
  show wpAny _ A ((compTurn (.ListComp elt [⟨target, iter, ifs, 0⟩] scope pos) 0 (.ref it) (.ref D) env).onRaise (fun x => do noteFrame x env; theTreesLotGoes x)) _ _ s
  refine wpAny_noted ?_
  rw [compTurn_list]
  refine wpAny_bind (wpAny_standAt (wpAny_bind ?_))
  have live : ∀ a ∈ (D :: own), ∃ o, s.heap.get? a = some o ∧ ∀ v, o.data ≠ .cell v := fun a ma => by
    rcases List.mem_cons.mp ma with rfl | ma
    · exact ⟨_, hget1, fun v q => by cases q⟩
    · exact I.live hat1 a ma
  have fz1 : ∀ a o, g₁.fz a = some o → s.heap.get? a = some o := F1.gs.fz
  have fzn : ∀ a ∈ own, g₁.fz a = none := fun a ma => by
    cases q : g₁.fz a with
    | none => rfl
    | some o =>
      have := F1.gs.dis a o q
      rw [G.prot_in (List.mem_cons_of_mem _ ma)] at this
      obtain ⟨o', e', _⟩ := live a (List.mem_cons_of_mem _ ma)
      rw [e'] at this; cases this
  by_cases hlast : i = xs.length
  · subst hlast
    refine wpAny_mono (I.stop (E := _) L.hd hat1 fz1 fzn (Q := fun s₁ => KeepBut own s.heap s₁.heap ∧ s₁.gens = s.gens ∧ s₁.os = s.os) fun s' a b d => ⟨a, b, d⟩) (fun r s₁ h => ?_) (fun _ _ e => e)
    obtain ⟨rfl, K, hg, ho⟩ := h
    have hrun2 : out = [] ∧ σ' = σ₁ := by simpa [CompRun] using hrun1
    obtain ⟨rfl, rfl⟩ := hrun2
    obtain ⟨F2, _⟩ := guard_turn (new := none) F1 live (fun b o hb e => K b o (fun q => hb (List.mem_cons_of_mem _ q)) e) hg ho (fun _ _ q => by cases q)
    refine wpAny_pure (hR g₁ s₁ its m l1 F2 (K _ _ hD hget1) (by rw [htot]; simpa using racc) ?_)
    have := racc.length
    rw [Array.length_toList] at this
    rw [sizeLine_eq]; omega
  · have hlt : i < xs.length := by omega
    have hx : xs[i]? = some xs[i] := by simp [hlt]
    have hdrop : xs.drop i = xs[i] :: xs.drop (i + 1) := List.drop_eq_getElem_cons hlt
    rw [hdrop] at hrun1
    obtain ⟨σ2, b, σ3, hA, hT, hF⟩ := hrun1
    refine wpAny_mono (I.step (E := _) hat1 fz1 fzn hx (Q := fun v s₁ => ∃ new, KeepBut own s.heap s₁.heap ∧ s₁.gens = s.gens ∧ s₁.os = s.os ∧ (∀ a o, new = some (a, o) → s.heap.get? a = none ∧ s₁.heap.get? a = some o) ∧ At (i + 1) (g₁.addNew new) s₁.heap ∧ Rep c.w (g₁.addNew new) v xs[i])
      fun v s' new K hg ho hn hat' rv => ⟨new, K, hg, ho, hn, hat', rv⟩) (fun r s₁ h => ?_) (fun _ _ e => e)
    obtain ⟨v, rfl, h⟩ := h
    refine wpAny_bind (wpAny_mono h (fun _ s₂ h₂ => ?_) fun _ _ e => e)
    obtain ⟨new, K, hg, ho, hn, hat', rv⟩ := h₂
    obtain ⟨Fb, l2⟩ := guard_turn F1 live (fun b o hb e => K b o (fun q => hb (List.mem_cons_of_mem _ q)) e) hg ho hn
    have hD2 : s₂.heap.get? D = some (listOf its m) := K _ _ hD hget1
    refine wpAny_bind (hA A env _ s₂ v _ _ L V Fb (Rep.mono (g := g₁.addNew new) (g' := (g₁.addNew new).prot s₂.heap (D :: own)) (fun _ _ q => q) (fun _ _ q => q) rv) fun g3 s3 l3 F3 => ?_)
    have live' := I.live hat'
    have fxnew : (g₁.addNew new).fx = g.fx := by rw [l2.fx, l1.fx]
    have after : ∀ {σx : St} {g4 : G} {s4 : Shared}, ((g₁.addNew new).prot s₂.heap (D :: own)).le g4 → FSim c sc env σx g4 s4 →
        (∀ a ∈ own, s4.heap.get? a = s₂.heap.get? a) ∧ s4.heap.get? D = some (listOf its m) ∧ (g₁.addNew new).le { g4 with fx := g.fx } ∧ ({ g4 with fx := g.fx } : G).prot s4.heap (D :: own) = g4 ∧ At (i + 1) { g4 with fx := g.fx } s4.heap := fun {σx g4 s4} l4 F4 => by
      have own4 : ∀ a ∈ (D :: own), s4.heap.get? a = s₂.heap.get? a := fun a ma => by
        have : ∃ o, s₂.heap.get? a = some o := by
          rcases List.mem_cons.mp ma with rfl | ma
          · exact ⟨_, hD2⟩
          · obtain ⟨o, e, _⟩ := live' a ma; exact ⟨o, e⟩
        obtain ⟨o, e⟩ := this
        rw [e]
        refine F4.gs.fx a o ?_
        rw [l4.fx, G.prot_in ma]; exact e
      have l34 : (g₁.addNew new).le { g4 with fx := g.fx } := ⟨fun i a q => l4.φ i a q, fun i a q => l4.dx i a q, fun a o q => l4.fz a o q, fxnew.symm⟩
      refine ⟨fun a ma => own4 a (List.mem_cons_of_mem _ ma), (own4 D List.mem_cons_self).trans hD2, l34, ?_, I.keep hat' (fun a ma => own4 a (List.mem_cons_of_mem _ ma)) l34.φ l34.fz⟩
      have : ({ g4 with fx := g.fx } : G).prot s4.heap (D :: own) = { g4 with fx := (({ g4 with fx := g.fx } : G).prot s4.heap (D :: own)).fx } := rfl
      rw [this]
      have hfun : (({ g4 with fx := g.fx } : G).prot s4.heap (D :: own)).fx = g4.fx := by
        funext a
        rw [l4.fx]
        by_cases ma : a ∈ (D :: own)
        · rw [G.prot_in ma, G.prot_in ma]; exact own4 a ma
        · rw [G.prot_out ma, G.prot_out ma, fxnew]
      rw [hfun]
    refine wpAny_bind (ifs_wp hT L V F3 fun g4 s4 l4 F4 => ?_)
    cases b with
    | false =>
      obtain ⟨_, hD4, l5, g4eq, at4⟩ := after (l3.trans l4) F4
      have hr : CompRun c k sc target ifs elt (xs.drop (i + 1)) σ3 out σ' := by simpa using hF
      refine wpAny_pure ⟨rfl, xs.length - (i + 1), by omega, i + 1, { g4 with fx := g.fx }, σ3, acc, its, m, out, rfl, by omega, (l1.trans l2).trans l5, by rw [g4eq]; exact F4, at4, hD4, racc.le (l2.trans l5), by omega, hr, htot⟩
    | true =>
      obtain ⟨p, σ4, out', hE, hr, rfl⟩ : ∃ p σ₃ out', TrE c k sc σ3 elt p σ₃ ∧ CompRun c k sc target ifs elt (xs.drop (i + 1)) σ₃ out' σ' ∧ out = p :: out' := by simpa using hF
      refine wpAny_bind (wpAny_bind (hE A env g4 s4 _ _ L V F4 fun u g5 s5 N ru => ?_))
      obtain ⟨_, hD5, l6, g5eq, at5⟩ := after ((l3.trans l4).trans N.le) N.sim
      have hsz := racc.length
      rw [Array.length_toList] at hsz
      refine wpAny_bind (wpAny_list_append_plain ⟨m, hD5⟩ (fun h' hpl hsb => ?_) (by rw [sizeLine_eq]; omega))
      obtain ⟨m', hD6⟩ := hpl
      have live5 : ∀ a ∈ (D :: own), ∃ o, s5.heap.get? a = some o ∧ ∀ v, o.data ≠ .cell v := fun a ma => by
        rcases List.mem_cons.mp ma with rfl | ma
        · exact ⟨_, hD5, fun v q => by cases q⟩
        · exact I.live at5 a ma
      have F5 : FSim c sc env σ4 (({ g5 with fx := g.fx } : G).prot s5.heap (D :: own)) s5 := by rw [g5eq]; exact N.sim
      obtain ⟨F6, _⟩ := guard_turn (s₂ := { s5 with heap := h' }) (new := none) F5 live5 (fun b o hb e => (hsb.2 b (fun q => hb (by rw [q]; exact List.mem_cons_self))).trans e) rfl rfl (fun _ _ q => by cases q)
      have at6 : At (i + 1) { g5 with fx := g.fx } h' := I.keep at5 (fun a ma => hsb.2 a (fun q => hD (q ▸ ma))) (fun _ _ q => q) (fun _ _ q => q)
      refine wpAny_pure (wpAny_pure ⟨rfl, xs.length - (i + 1), by omega, i + 1, { g5 with fx := g.fx }, σ4, acc ++ [p], its.push u, m', out', rfl, by omega, (l1.trans l2).trans l6, F6, at6, hD6, ?_, by simp; omega, hr, by rw [htot]; simp⟩)
      rw [Array.toList_push]
      exact (racc.le (l2.trans l6)).snoc (Rep.mono (g := g5) (g' := { g5 with fx := g.fx }) (fun _ _ q => q) (fun _ _ q => q) ru)
end
end RM
end
noncomputable section
open PySem.SeqAt PySem.MeetsSeq
namespace RM
inductive SrcOk : PV → List PV → Prop
  | list (xs : List PV) : SrcOk (.list xs) xs
  | dict (kvs : List (Str × PV)) : SrcOk (.dict kvs) (keysPV kvs)
theorem mapM_some {α β : Type} {f : α → Option β} : ∀ {l : List α} {r : List β}, l.mapM f = some r → r.length = l.length ∧ ∀ (i : Nat) (p : α), l[i]? = some p → ∃ b, r[i]? = some b ∧ f p = some b
  | [], r, h => by simp at h; subst h; simp
  | a :: l, r, h => by
    rw [List.mapM_cons] at h
    cases ha : f a with
    | none => rw [ha] at h; cases h
    | some b =>
      rw [ha] at h
      cases hl : l.mapM f with
      | none => rw [hl] at h; cases h
      | some r' =>
        rw [hl] at h
        have : r = b :: r' := by simpa using h.symm
        subst this
        obtain ⟨h1, h2⟩ := mapM_some hl
        refine ⟨by simp [h1], fun i p hi => ?_⟩
        cases i with
        | zero => simp at hi; subst hi; exact ⟨b, by simp, ha⟩
        | succ i => simpa using h2 i p (by simpa using hi)
section
variable {c : KB} {k : Nat} {sc : Scope} {σ σ' σ₁ σ₂ σ₃ : St} {pl : List PRec} {g g' : G} {s s' : Shared} {env : Env}
theorem src_iter {target : Expr} {p : PV} {xs : List PV} {v : Value} {A : Around} {Q : Value → Shared → Prop} {E : Value → Shared → Prop} (hp : SrcOk p xs) (X : GS c pl g s) (rv : Rep c.w g v p)
    (hQ : ∀ o At, Iter c target xs s.heap.objs.size [s.heap.objs.size] At → At 0 g (s.heap.push o) → (s.heap.push o).get? s.heap.objs.size = some o →
      (∀ {A : Around} {Q : Value → Shared → Prop} {E : Value → Shared → Prop} {s' : Shared}, s'.heap.get? s.heap.objs.size = some o → Q (.ref s.heap.objs.size) s' → wpAny (model c.prog c.w) A (pyIter (.ref s.heap.objs.size)) Q E s') →
      Q (.ref s.heap.objs.size) { s with heap := s.heap.push o }) : wpAny (model c.prog c.w) A (pyIter v) Q E s := by
  cases hp with
  | list xs =>
    cases rv with
    | list e r sz =>
      rename_i l its n
      refine wpAny_pyIter_list (IsList_of (X.fz _ _ e)) (hQ _ _ (iter_list (target := target)) ⟨l, its, n, e, r, _, Heap.get?_push_size _ rfl, rfl, rfl⟩ (Heap.get?_push_size _ rfl) ?_)
      intro A Q E s' h1 h2
      exact wpAny_pyIter_listiter (l := l) (i := 0) ⟨_, h1, rfl, rfl⟩ h2
  | dict kvs =>
    cases rv with
    | dict q e r nd sz =>
      rename_i d es n
      obtain ⟨kv2, hd, hk⟩ := dictAt_rep (c := c) (X.fz _ _ e) r nd
      have hl : kv2.length = kvs.length := by have := congrArg List.length hk; simpa using this
      refine wpAny_pyIter_dict q hd (hQ _ _ (iter_key (target := target)) ⟨d, es, n, e, r, nd, ?_⟩ (Heap.get?_push_size _ rfl) ?_)
      · rw [← hl]; exact ⟨_, Heap.get?_push_size _ rfl, rfl, rfl⟩
      · intro A Q E s' h1 h2
        exact wpAny_pyIter_keyiter (d := d) (i := 0) (n := kv2.length) (ep := n) ⟨_, h1, rfl, rfl⟩ h2
theorem GS.prot {own : List Addr} (x : GS c pl g s) (K : HExt s.heap s'.heap) (hg : s'.gens = s.gens) (ho : s'.os = s.os) (hn : ∀ a ∈ own, s.heap.get? a = none) : GS c pl (g.prot s'.heap own) s' := by
  have out : ∀ {a o}, s.heap.get? a = some o → a ∉ own := fun {a o} e m => by rw [hn a m] at e; cases e
  refine ⟨x.ok, fun a o e => K _ _ (x.fz _ _ e), fun a o e => ?_, fun a o e => ?_, x.base, x.lenφ, x.lendx, fun i r e => ?_, x.dxn, fun d hd => ?_, hg.trans x.gens, ho.trans x.os⟩
  · by_cases m : a ∈ own
    · rw [G.prot_in m] at e; exact e
    · rw [G.prot_out m] at e; exact K _ _ (x.fx _ _ e)
  · rw [G.prot_out (out (x.fz _ _ e))]; exact x.dis _ _ e
  · obtain ⟨a, d, es, n, e1, e2, e3, e4, e5, e6⟩ := x.pls i r e
    exact ⟨a, d, es, n, e1, e2, e3, K _ _ e4, RepD.mono (g := g) (g' := g.prot s'.heap own) (fun _ _ q => q) (fun _ _ q => q) e5, e6⟩
  · obtain ⟨es, n, e⟩ := x.dxget hd
    exact ⟨(x.dxf d hd).1, by rw [G.prot_out (out e)]; exact (x.dxf d hd).2⟩
theorem envSc_comp {scope : Scope} {env : Env} (V : EnvSc env sc) (ok : ScOk scope = true) (Lc : Addr) (cs : List (Str × Addr)) :
    EnvSc { newEnv scope Lc env.globals cs env.qual none .none (some env) env.builtins with scope := relabel scope env } scope := by
  simp only [ScOk, Bool.and_eq_true, decide_eq_true_eq, beq_iff_eq, Bool.not_eq_true', List.all_eq_true] at ok
  obtain ⟨⟨⟨⟨nd, kk⟩, gg⟩, co⟩, db⟩ := ok
  refine ⟨kk, gg, V.glob, V.bi, fun x h => ?_, fun x h => ?_, fun x h => ?_, fun x h => ?_, fun x kd h => db _ h, nd⟩
  · have : (relabel scope env).names.lookup x = some .local := by
      show List.lookup x (scope.names.map _) = _
      rw [lookup_relabel (scope := scope), h]; rfl
    exact this
  · have : (relabel scope env).names.lookup x = some .cell := by
      show List.lookup x (scope.names.map _) = _
      rw [lookup_relabel (scope := scope), h]; rfl
    exact this
  · have : (relabel scope env).names.lookup x = some .free ∨ (relabel scope env).names.lookup x = some .cell := by
      show List.lookup x (scope.names.map _) = _ ∨ List.lookup x (scope.names.map _) = _
      rw [lookup_relabel (scope := scope), h]
      by_cases hc : (NameKind.free == NameKind.free && env.scope.kind == .function && env.kindOf x == some .cell) = true
      · right; simp only [Option.map_some, hc, if_true]
      · left; simp only [Option.map_some, hc, Bool.false_eq_true, if_false]
    exact this
  · have : (relabel scope env).names.lookup x = some .globalImplicit := by
      show List.lookup x (scope.names.map _) = _
      rw [lookup_relabel (scope := scope), h]; rfl
    exact this
theorem capVs_get {scO scI : Scope} {vs vsC : List (Option Bind)} (h : capVs scO vs scI = some vsC) :
    (∀ (i : Nat) (x : Str) (kd : NameKind), scI.names[i]? = some (x, kd) → kd ≠ .free → vsC[i]? = some none) ∧
    (∀ (i : Nat) (x : Str), scI.names[i]? = some (x, .free) → ∃ j kd q, vloc scO x = some (j, kd) ∧ (kd = .cell ∨ kd = .free) ∧ vs[j]? = some (some (.val q)) ∧ vsC[i]? = some (some (.val q))) := by
  obtain ⟨h1, h2⟩ := mapM_some h
  refine ⟨fun i x kd hi hk => ?_, fun i x hi => ?_⟩
  · obtain ⟨b, hb, hf⟩ := h2 i _ hi
    have : (kd == NameKind.free) = false := by simpa using hk
    simp only [this, Bool.false_eq_true, if_false] at hf
    cases hf; exact hb
  · obtain ⟨b, hb, hf⟩ := h2 i _ hi
    simp only [beq_self_eq_true, if_true] at hf
    split at hf
    · rename_i j hj
      split at hf
      · rename_i q hq; cases hf; exact ⟨j, _, q, hj, .inl rfl, hq, hb⟩
      · cases hf
    · rename_i j hj
      split at hf
      · rename_i q hq; cases hf; exact ⟨j, _, q, hj, .inr rfl, hq, hb⟩
      · cases hf
    · cases hf
theorem cell_of {h : Heap} {vs : List (Option Bind)} (F : FS c sc env vs g h) {x : Str} {j : Nat} {kd : NameKind} {q : PV} (hj : vloc sc x = some (j, kd)) (hk : kd = .cell ∨ kd = .free) (hv : vs[j]? = some (some (.val q))) :
    ∃ a v, env.cells.lookup x = some a ∧ h.IsCell a (some v) ∧ Rep c.w g v q := by
  obtain ⟨y, ky, v, e, hs, hb⟩ := F.vars j _ hv
  rw [vloc_get hj] at e; cases e
  rcases hk with rfl | rfl
  · obtain ⟨a, h1, h2⟩ := hs; exact ⟨a, v, h1, h2, hb⟩
  · obtain ⟨a, h1, h2⟩ := hs; exact ⟨a, v, h1, h2, hb⟩
set_option maxHeartbeats 1000000 in
theorem comp_core {elt target iter : Expr} {ifs : List Expr} {scope : Scope} {pos : Pos} {p : PV} {xs out : List PV} {vs0 vsC : List (Option Bind)} {σC : St} {use : Option (Value → Sem Unit)} {A : Around} {Q : Value → Shared → Prop} {E : Value → Shared → Prop}
    (he : TrE c k sc σ iter p σ₁) (hp : SrcOk p xs) (h0 : capVs sc σ.vs scope = some vs0) (hcap : capVs sc σ₁.vs scope = some vsC) (hsc : ScOk scope = true)
    (hrun : CompRun c k scope target ifs elt xs ⟨vsC, σ₁.pl⟩ out σC) (hlen : xs.length ≤ 100000) (hfold : ∀ env x, foldedSetIterable iter env x = pure x)
    (L : Lim k A) (V : EnvSc env sc) (F : FSim c sc env σ g s)
    (hfin : ∀ gO s' Lc D m, g.le gO → FSim c sc env { σ₁ with pl := σC.pl } (gO.prot s'.heap [Lc]) s' → gO.fx Lc = none → s'.heap.Ns Lc m → Stay env s.heap s'.heap → Rep c.w gO (.ref D) (.list out) →
      compPost (model c.prog c.w) A E use Q (.ref D) Lc (.ok .next) s') :
    wpAny (model c.prog c.w) A (comprehension (.ListComp elt [⟨target, iter, ifs, 0⟩] scope pos) scope env iter.pos (newList []) false (eval iter env) use) Q E s := by
  have ok := hsc
  simp only [ScOk, Bool.and_eq_true, decide_eq_true_eq, beq_iff_eq, Bool.not_eq_true', List.all_eq_true] at ok
  obtain ⟨⟨⟨⟨nd, kk⟩, gg⟩, co⟩, db⟩ := ok
  obtain ⟨cl, hcl, hcll⟩ := closureFor_ok (env := env) nd fun x hx => by
    obtain ⟨i, hi⟩ := List.getElem?_of_mem hx
    obtain ⟨j, kd, q, hj, hk, hv, _⟩ := (capVs_get h0).2 i x hi
    obtain ⟨a, v, h1, _⟩ := cell_of F.fs hj hk hv
    rw [h1]; rfl
  refine wpAny_comprehension_free (g := ⟨target, iter, ifs, 0⟩) (gs := []) rfl (hfold env) hcl kk (fun x hx hl => ?_) ?_
  · obtain ⟨i, hi⟩ := List.getElem?_of_mem hx
    have : scope.names[i]? = some (x.1, x.2) := hi
    rw [hl] at this
    exact lookup_of_get nd this
  refine he A env g s _ _ L V F fun v g1 s1 N rv => ?_
  refine src_iter (target := target) hp N.sim.gs rv fun o At I hat hito hself => ?_
  refine wpAny_newObj_type ?_
  show wpAny _ _ (newFunctionEnv scope env.globals cl [] env.qual none .none (some env) _) _ _ _
  simp only [newFunctionEnv, Option.isSome_some, if_true]
  refine wpAny_bind (wpAny_alloc ?_)
  refine wpAny_bind (wpAny_layCells _ (fun name kind cells => by cases hkc : kind == NameKind.cell <;> simp [hkc]) _ _ _ _ ?_)
  simp only [List.forIn_nil]
  refine wpAny_bind (wpAny_pure (wpAny_pure ?_))
  generalize hh2 : s1.heap.push o = h2 at *
  generalize hh3 : h2.push { cls := .type "list", data := .seq ([] : List Value).toArray } = h3 at *
  generalize hh4 : h3.push { cls := .type "dict", data := .dict #[] } = h4 at *
  have z2 : h2.objs.size = s1.heap.objs.size + 1 := by rw [← hh2, Heap.size_push]
  have z3 : h3.objs.size = s1.heap.objs.size + 2 := by rw [← hh3, Heap.size_push, z2]
  have z4 : h4.objs.size = s1.heap.objs.size + 3 := by rw [← hh4, Heap.size_push, z3]
  have k2 : HExt s1.heap h2 := hh2 ▸ push_ext _ _
  have k3 : HExt h2 h3 := hh3 ▸ push_ext _ _
  have k4 : HExt h3 h4 := hh4 ▸ push_ext _ _
  have k5 : HExt h4 (pushCells h4 scope.names) := fun b o e => pushCells_keeps _ _ b o e
  have kk5 : HExt s1.heap (pushCells h4 scope.names) := fun b o e => k5 _ _ (k4 _ _ (k3 _ _ (k2 _ _ e)))
  have hD : (pushCells h4 scope.names).get? h2.objs.size = some (listOf #[] 0) := k5 _ _ (k4 _ _ (hh3 ▸ Heap.get?_push_size _ rfl))
  have hL : (pushCells h4 scope.names).Ns h3.objs.size (fun _ => none) := (hh4 ▸ Heap.Ns.new h3 (.type "dict") : h4.Ns h3.objs.size (fun _ => none)).keeps k5
  have hI : (pushCells h4 scope.names).get? s1.heap.objs.size = some o := k5 _ _ (k4 _ _ (k3 _ _ hito))
  have old : ∀ {b : Addr}, s1.heap.objs.size ≤ b → s1.heap.get? b = none := fun hb => get_none_of_ge hb
  obtain ⟨c1, c2, c3⟩ := cellsFrom_spec scope.names h4 cl nd
  generalize hcs : cellsFrom h4.objs.size scope.names cl = cs at *
  generalize hh5 : pushCells h4 scope.names = h5 at *
  generalize hLc : h3.objs.size = Lc at *
  generalize hDd : h2.objs.size = D at *
  generalize hIt : s1.heap.objs.size = it at *
  have nDI : D ≠ it := by omega
  have nLD : Lc ≠ D := by omega
  have nLI : Lc ≠ it := by omega
  have X1 := N.sim.gs
  have Vc := envSc_comp V hsc Lc cs
  let gC : G := g1.maxfx s1.heap
  have XC : GS c σ₁.pl gC s1 := X1.maxfx
  have own2 : ∀ a ∈ [D, it], s1.heap.get? a = none := fun a ha => by
    rcases List.mem_cons.mp ha with rfl | ha
    · exact old (by omega)
    · rw [List.mem_singleton] at ha; subst ha; exact old (by omega)
  have XP : GS c σ₁.pl (gC.prot h5 [D, it]) { s1 with heap := h5 } := XC.prot (s' := { s1 with heap := h5 }) kk5 rfl rfl own2
  have fresh : ∀ b, it ≤ b → b ≠ D → b ≠ it → Mut (gC.prot h5 [D, it]) b := fun b hb h1 h2 => by
    have m := XC.fresh (old hb)
    refine ⟨m.1, ?_, m.2.2⟩
    rw [G.prot_out (by simp [h1, h2])]; exact m.2.1
  have FC : FSim c scope { newEnv scope Lc env.globals cs env.qual none .none (some env) env.builtins with scope := relabel scope env } ⟨vsC, σ₁.pl⟩ (gC.prot h5 [D, it]) { s1 with heap := h5 } := by
    refine ⟨XP, ⟨_, hL⟩, fresh Lc (by omega) nLD nLI, fun x hx => ?_, fun x y a hx hy e1 e2 => ?_, fun i b hi => ?_, ?_⟩
    · obtain ⟨a, e1, e2, e3⟩ := c1 x hx
      have ha : it + 3 ≤ a := by omega
      exact ⟨a, none, e1, ⟨_, e3, rfl⟩, fresh a (by omega) (by omega) (by omega)⟩
    · rcases hy with hy | hy
      · exact c3 x y a hx hy e1 e2
      · exfalso
        obtain ⟨a', e3, e4, _⟩ := c1 x hx
        have : a' = a := by
          have e1' : cs.lookup x = some a := e1
          rw [e3] at e1'; exact Option.some.inj e1'
        subst this
        have hyc : (y, NameKind.cell) ∉ scope.names := fun q => by
          obtain ⟨i, hi⟩ := List.getElem?_of_mem hy
          obtain ⟨j, hj⟩ := List.getElem?_of_mem q
          have := idx_of_get nd hi hj
          subst this
          rw [hi] at hj; cases hj
        have e2' : cs.lookup y = some a' := e2
        rw [c2 y hyc, hcll y hy] at e2'
        obtain ⟨i, hi⟩ := List.getElem?_of_mem hy
        obtain ⟨j, kd, q, hj, hk, hv, _⟩ := (capVs_get hcap).2 i y hi
        obtain ⟨a2, v2, h1, h2', _⟩ := cell_of N.sim.fs hj hk hv
        rw [e2'] at h1; cases h1
        exact Nat.lt_irrefl _ (Nat.lt_of_lt_of_le h2'.lt (by rw [hIt]; omega))
    · cases hn : scope.names[i]? with
      | none =>
        exfalso
        have hlen' := (mapM_some hcap).1
        have h1 : i < vsC.length := (List.getElem?_eq_some_iff.mp hi).1
        rw [List.getElem?_eq_none_iff] at hn
        omega
      | some q =>
        obtain ⟨x, kd⟩ := q
        by_cases hkf : kd = .free
        · subst hkf
          obtain ⟨j, kd', q, hj, hk, hv, hc'⟩ := (capVs_get hcap).2 i x hn
          have hi' : vsC[i]? = some (some b) := hi
          rw [hc'] at hi'; cases hi'
          obtain ⟨a, v', h1, h2', h3'⟩ := cell_of N.sim.fs hj hk hv
          have hxc : (x, NameKind.cell) ∉ scope.names := fun q => by
            obtain ⟨j, hj⟩ := List.getElem?_of_mem q
            have := idx_of_get nd hn hj
            subst this
            rw [hn] at hj; cases hj
          refine ⟨x, .free, v', rfl, ⟨a, ?_, h2'.keeps kk5⟩, ?_⟩
          · show cs.lookup x = some a
            rw [c2 x hxc, hcll x (List.mem_of_getElem? hn)]; exact h1
          · exact Rep.mono (g := g1) (g' := gC.prot h5 [D, it]) (fun _ _ q => q) (fun _ _ q => q) h3'
        · exfalso
          have := (capVs_get hcap).1 i x kd hn hkf
          have hi' : vsC[i]? = some (some b) := hi
          rw [this] at hi'; cases hi'
    · intro i j b b' x y k1 k2 v hij hi hj ob
      exfalso
      cases hn : scope.names[i]? with
      | none =>
        have hlen' := (mapM_some hcap).1
        have h1 : i < vsC.length := (List.getElem?_eq_some_iff.mp hi).1
        rw [List.getElem?_eq_none_iff] at hn
        omega
      | some q =>
        obtain ⟨x', kd⟩ := q
        have hi' : vsC[i]? = some (some b) := hi
        by_cases hkf : kd = .free
        · subst hkf
          obtain ⟨_, _, q, _, _, _, hc'⟩ := (capVs_get hcap).2 i x' hn
          rw [hc'] at hi'; cases hi'; cases ob
        · have := (capVs_get hcap).1 i x' kd hn hkf
          rw [this] at hi'; cases hi'
  have hatC : At 0 gC h5 := by
    refine I.keep hat (fun a ha => ?_) (fun _ _ q => q) (fun _ _ q => q)
    rw [List.mem_singleton] at ha; subst ha
    rw [hI, hito]
  have hDn : D ∉ [it] := by simp [nDI]
  have loop : codeAny (model c.prog c.w) A (.compLoop (.ListComp elt [⟨target, iter, ifs, 0⟩] scope pos) 0 (.ref it) (.ref D) { newEnv scope Lc env.globals cs env.qual none .none (some env) env.builtins with scope := relabel scope env })
      (compPost (model c.prog c.w) A E use Q (.ref D) Lc) { s1 with heap := h5 } := by
    refine comp_loop (g := gC) I L Vc FC hatC hDn hD hrun hlen fun g' s' its n l F' hgD R hsz => ?_
    have y := F'.gs
    have nsL := F'.fs.ns
    have muL := F'.fs.nsm
    obtain ⟨mL, hmL⟩ := nsL
    have hmL : s'.heap.Ns Lc mL := hmL
    obtain ⟨oL, esL, epL, hoL, hdL⟩ := Ns.get_some hmL
    have muL : Mut (g'.prot s'.heap [D, it]) Lc := muL
    have pDI : ∀ {a : Addr} {o : Obj}, s1.heap.get? a = some o → a ∉ [D, it] := fun {a o} e m => by rw [own2 a m] at e; cases e
    have nL : ∀ {a : Addr} {o : Obj}, s1.heap.get? a = some o → a ≠ Lc := fun {a o} e q => by rw [q, old (by omega)] at e; cases e
    have nD : ∀ {a : Addr} {o : Obj}, s1.heap.get? a = some o → a ≠ D := fun {a o} e q => by rw [q, old (by omega)] at e; cases e
    have fxC : g'.fx = gC.fx := l.fx
    have guard : ∀ {a : Addr} {o : Obj}, s1.heap.get? a = some o → g1.fz a = none → a ∉ g1.dx → (g'.prot s'.heap [D, it]).fx a = some o := fun {a o} e h1 h2 => by
      rw [G.prot_out (pDI e), fxC]
      show (g1.maxfx s1.heap).fx a = some o
      simp [G.maxfx, h1, h2, e]
    have g1fx : ∀ {a : Addr} {o : Obj}, g1.fx a = some o → s1.heap.get? a = some o ∧ (g'.prot s'.heap [D, it]).fx a = some o := fun {a o} e => by
      have h0 := X1.fx _ _ e
      refine ⟨h0, ?_⟩
      rw [G.prot_out (pDI h0), fxC]
      exact X1.fx_le e
    have fxD : (g'.prot s'.heap [D, it]).fx D = some (listOf its n) := by rw [G.prot_in (by simp)]; exact hgD
    have fzD : g'.fz D = none := by
      cases q : g'.fz D with
      | none => rfl
      | some o' => have := y.dis D o' q; rw [fxD] at this; cases this
    let g0 : G := { g' with fx := g1.fx }
    have lz : g0.le (g0.addFz D (listOf its n)) := G.addFz_le fzD
    have l01 : g1.le g0 := ⟨fun i a q => l.φ i a q, fun i a q => l.dx i a q, fun a o q => l.fz a o q, rfl⟩
    have lO : g1.le (g0.addFz D (listOf its n)) := l01.trans lz
    have Kold : ∀ a o, s1.heap.get? a = some o → a ∉ g1.dx → s'.heap.get? a = some o := fun a o e hd => by
      cases q : g1.fz a with
      | none => exact y.fx _ _ (guard e q hd)
      | some o' =>
        have := X1.fz _ _ q
        rw [e] at this; cases this
        exact y.fz _ _ (l.fz _ _ q)
    have Xout : GS c σC.pl ((g0.addFz D (listOf its n)).prot s'.heap [Lc]) s' := by
      refine ⟨y.ok, fun a o' e => ?_, fun a o' e => ?_, fun a o' e => ?_, fun a o' e => lz.fz _ _ (y.base _ _ e), y.lenφ, y.lendx, fun i r e => ?_, y.dxn, fun d hd => ⟨?_, ?_⟩, y.gens, y.os⟩
      · by_cases q : a = D
        · subst q
          have e' : (g0.addFz a (listOf its n)).fz a = some o' := e
          rw [G.addFz_self] at e'; cases e'; exact hgD
        · have e' : (g0.addFz D (listOf its n)).fz a = some o' := e
          have e2 : g0.fz a = some o' := by simpa [G.addFz, q] using e'
          exact y.fz a o' e2
      · by_cases q : a ∈ [Lc]
        · rw [G.prot_in q] at e; exact e
        · rw [G.prot_out q] at e
          exact y.fx _ _ (g1fx e).2
      · by_cases q : a = D
        · subst q
          rw [G.prot_out (by simp; exact fun q => nLD q.symm)]
          show g1.fx a = none
          cases r : g1.fx a with
          | none => rfl
          | some o2 => have := (g1fx r).1; rw [old (by omega)] at this; cases this
        · have e1 : g'.fz a = some o' := by
            have e' : (g0.addFz D (listOf its n)).fz a = some o' := e
            have e2 : g0.fz a = some o' := by simpa [G.addFz, q] using e'
            exact e2
          have naL : a ≠ Lc := fun q => by rw [q] at e1; have h1 : g'.fz Lc = none := muL.1; rw [h1] at e1; cases e1
          rw [G.prot_out (by simpa using naL)]
          show g1.fx a = none
          cases r : g1.fx a with
          | none => rfl
          | some o2 => have := y.dis a o' e1; rw [(g1fx r).2] at this; cases this
      · obtain ⟨a, d, es, n', e1, e2, e3, e4, e5, e6⟩ := y.pls i r e
        exact ⟨a, d, es, n', e1, e2, lz.fz _ _ e3, e4, RepD.mono (g := g'.prot s'.heap [D, it]) (g' := (g0.addFz D (listOf its n)).prot s'.heap [Lc]) (fun _ _ q => q) (fun b o' q => lz.fz b o' q) e5, e6⟩
      · have q : d ≠ D := fun q => by have := (y.dxf d hd).2; rw [q, fxD] at this; cases this
        show (g0.addFz D (listOf its n)).fz d = none
        have h1 : g'.fz d = none := (y.dxf d hd).1
        have h2 : g0.fz d = none := h1
        simpa [G.addFz, q] using h2
      · have q : d ≠ Lc := fun q => muL.2.2 (q ▸ hd)
        rw [G.prot_out (by simpa using q)]
        show g1.fx d = none
        cases r : g1.fx d with
        | none => rfl
        | some o2 => have := (y.dxf d hd).2; rw [(g1fx r).2] at this; cases this
    have Fout : FSim c sc env { σ₁ with pl := σC.pl } ((g0.addFz D (listOf its n)).prot s'.heap [Lc]) s' := by
      refine ⟨Xout, FS.evolve X1 N.sim.fs lO.φ lO.fz (fun a o' e _ hd => Kold a o' e hd) (fun a o' e m => ?_)⟩
      have hg := guard e m.1 m.2.2
      refine ⟨?_, ?_, fun hd => ?_⟩
      · have h1 : g'.fz a = none := by
          cases q : g'.fz a with
          | none => rfl
          | some o2 => have := y.dis a o2 q; rw [hg] at this; cases this
        show (g0.addFz D (listOf its n)).fz a = none
        have h2 : g0.fz a = none := h1
        simpa [G.addFz, nD e] using h2
      · rw [G.prot_out (by simpa using nL e)]; exact m.2.1
      · have := (y.dxf a hd).2
        rw [hg] at this; cases this
    refine hfin _ s' Lc D mL (N.le.trans lO) Fout ?_ hmL (N.stay.trans ⟨fun m ⟨o', es, ep, e, r⟩ => ⟨o', es, ep, Kold _ _ e N.sim.fs.nsm.2.2, r⟩, fun x a v _ ⟨o', e, d⟩ => ⟨o', Kold _ _ e (X1.cell_notin ⟨o', e, d⟩), d⟩⟩) ?_
    · show g1.fx Lc = none
      cases r : g1.fx Lc with
      | none => rfl
      | some o2 => have := (g1fx r).1; rw [old (by omega)] at this; cases this
    · refine .list (G.addFz_self ..) ?_ hsz
      exact Reps.mono (g := g') (g' := g0.addFz D (listOf its n)) (fun _ _ q => q) (fun b o' q => lz.fz b o' q) R
  refine codeAny_compStart_list loop ?_
  exact hself hI loop
end
end RM
end
noncomputable section
namespace RM
def Bind.fr : Bind → Bind
  | .val p => .val p
  | .lst xs => .val (.list xs)
  | .dct kvs => .val (.dict kvs)
section
variable {c : KB} {k : Nat} {sc : Scope} {σ σ' σ₁ σ₂ σ₃ : St} {pl : List PRec} {g g' : G} {s s' : Shared} {env : Env}
theorem Mut.addFz {a d : Addr} {o : Obj} (m : Mut g d) (h : d ≠ a) : Mut (g.addFz a o) d := ⟨by simpa [G.addFz, h] using m.1, m.2.1, m.2.2⟩
theorem FSim.settle (F : FSim c sc env σ g s) {i : Nat} {b : Bind} (hv : σ.vs[i]? = some (some b)) : ∃ g', g.le g' ∧ FSim c sc env (σ.set i b.fr) g' s := by
  have hilt : i < σ.vs.length := (List.getElem?_eq_some_iff.mp hv).1
  by_cases hown : b.own = true
  · obtain ⟨x, kx, v, hx, hs, hb⟩ := F.fs.vars i b hv
    obtain ⟨m0, hm0⟩ := F.fs.ns
    have key : ∃ a o, v = .ref a ∧ s.heap.get? a = some o ∧ Mut g a ∧ a ≠ env.locals ∧ (∀ w, o.data ≠ .cell w) ∧ (∀ g', g.le g' → g'.fz a = some o → BindOk c.w env g' s.heap b.fr v) := by
      cases b with
      | val p => cases hown
      | lst xs =>
        obtain ⟨a, its, n, rfl, e, r, l, m⟩ := hb
        exact ⟨a, _, rfl, e, m, fun q => Ns.not_list (q ▸ hm0) e, (by intro w q; cases q), fun g' l' e' => Rep.list e' (r.le l') l⟩
      | dct kvs =>
        obtain ⟨a, es, n, rfl, e, r, nd, l, m, ne⟩ := hb
        exact ⟨a, _, rfl, e, m, ne, (by intro w q; cases q), fun g' l' e' => Rep.dict (F.gs.notModsM m) e' (r.le l') nd l⟩
    obtain ⟨a, o, rfl, e, mu, nel, ncell, mk⟩ := key
    have l := G.addFz_le (o := o) mu.1
    refine ⟨g.addFz a o, l, F.gs.evolve l rfl rfl (fun _ _ q => q) (fun d o' q => ?_) (fun d o' q => ?_) (fun d hd => ?_) rfl rfl, ?_⟩
    · by_cases h : d = a
      · subst h; rw [G.addFz_self] at q; cases q; exact e
      · exact F.gs.fz _ _ (by simpa [G.addFz, h] using q)
    · by_cases h : d = a
      · subst h; exact mu.2.1
      · exact F.gs.dis d o' (by simpa [G.addFz, h] using q)
    · have h : d ≠ a := fun h => mu.2.2 (h ▸ hd)
      simpa [G.addFz, h] using (F.gs.dxf d hd).1
    · refine ⟨⟨m0, hm0⟩, F.fs.nsm.addFz (Ne.symm nel), fun y hy => ?_, F.fs.apart, fun j b' hj => ?_, ?_⟩
      · obtain ⟨d, w, h1, h2, m⟩ := F.fs.cell y hy
        refine ⟨d, w, h1, h2, m.addFz fun q => ?_⟩
        subst q
        obtain ⟨o', e', d'⟩ := h2
        rw [e] at e'; cases e'
        exact ncell _ d'
      · rcases get_set_cases hj with ⟨rfl, rfl, _⟩ | ⟨hji, hj'⟩
        · exact ⟨x, kx, _, hx, hs, mk _ l (G.addFz_self ..)⟩
        · obtain ⟨y, ky, v', hy, hsy, hby⟩ := F.fs.vars j b' hj'
          refine ⟨y, ky, v', hy, hsy, ?_⟩
          have hne : b'.own = true → v' ≠ .ref a := fun ho q => by
            subst q
            exact F.fs.owns i j b b' x y kx ky _ (Ne.symm hji) hv hj' hown ho hx hy hs hsy
          cases b' with
          | val p => exact Rep.le hby l
          | lst xs =>
            obtain ⟨a', its, n, e1, e2, r, sz, m⟩ := hby
            exact ⟨a', its, n, e1, e2, r.le l, sz, m.addFz (fun q => hne rfl (by rw [e1, q]))⟩
          | dct xs =>
            obtain ⟨a', its, n, e1, e2, r, nd, sz, m, ne⟩ := hby
            exact ⟨a', its, n, e1, e2, r.le l, nd, sz, m.addFz (fun q => hne rfl (by rw [e1, q])), ne⟩
      · intro p q bp bq zp zq kp kq w hpq hp hq op oq np nq sp sq
        have nf : b.fr.own = false := by cases b <;> rfl
        rcases get_set_cases hp with ⟨rfl, rfl, _⟩ | ⟨_, hp'⟩
        · rw [nf] at op; cases op
        · rcases get_set_cases hq with ⟨rfl, rfl, _⟩ | ⟨_, hq'⟩
          · rw [nf] at oq; cases oq
          · exact F.fs.owns p q bp bq zp zq kp kq w hpq hp' hq' op oq np nq sp sq
  · have : b.fr = b := by cases b <;> first | rfl | exact absurd rfl hown
    rw [this]
    have hset : σ.set i b = σ := by
      cases σ with
      | mk vs pl =>
        simp only [St.set]
        congr 1
        apply List.ext_getElem?
        intro j
        by_cases h : j = i
        · subst h; rw [List.getElem?_set_self hilt]; exact hv.symm
        · rw [List.getElem?_set_ne (Ne.symm h)]
    exact ⟨g, .refl g, by rw [hset]; exact F⟩
theorem trs_settle {i : Nat} {b : Bind} {ts : List Stmt} {fl : Fl} (hv : σ.vs[i]? = some (some b)) (h : TrSs c k sc (σ.set i b.fr) ts fl σ') : TrSs c k sc σ ts fl σ' := by
  intro A env g s Q E L V F hQ
  obtain ⟨g', l, F'⟩ := F.settle hv
  exact h A env g' s Q E L V F' fun f g'' s'' l' F'' hf => hQ f g'' s'' (l.trans l') F'' hf
theorem FSim.unprot {h0 : Heap} {Lc : Addr} {m : Str → Option Value} {gO : G} (F : FSim c sc env σ (gO.prot h0 [Lc]) s) (hfx : gO.fx Lc = none) (hns : h0.Ns Lc m) :
    s.heap.Ns Lc m ∧ ∀ h', Heap.SameBut Lc s.heap h' → FSim c sc env σ gO { s with heap := h' } := by
  obtain ⟨o, es, ep, e, d, r⟩ := id hns
  have hf : (gO.prot h0 [Lc]).fx Lc = some o := by rw [G.prot_in (by simp)]; exact e
  have e1 : s.heap.get? Lc = some o := F.gs.fx _ _ hf
  refine ⟨⟨o, es, ep, e1, d, r⟩, fun h' sb => ?_⟩
  refine F.own_step (own := [Lc]) (s' := { s with heap := h' }) (fun a ha q => ?_) (fun a ha o' q v z => ?_) (fun b o' hb q => ?_) rfl rfl (fx' := gO.fx) fun a o' q => ?_
  · rw [List.mem_singleton] at ha; subst ha; rw [hf] at q; cases q
  · rw [List.mem_singleton] at ha; subst ha
    rw [e1] at q; cases q; rw [d] at z; cases z
  · exact (sb.2 b (by simpa using hb)).trans q
  · have hne : a ≠ Lc := fun z => by rw [z, hfx] at q; cases q
    have hq : (gO.prot h0 [Lc]).fx a = some o' := by rw [G.prot_out (by simpa using hne)]; exact q
    exact ⟨(sb.2 a hne).trans (F.gs.fx _ _ hq), by rw [hq]; simp⟩
theorem tr_comp {elt target iter : Expr} {ifs : List Expr} {scope : Scope} {pos : Pos} {p : PV} {xs out : List PV} {vs0 vsC : List (Option Bind)} {σC : St}
    (he : TrE c k sc σ iter p σ₁) (hp : SrcOk p xs) (h0 : capVs sc σ.vs scope = some vs0) (hcap : capVs sc σ₁.vs scope = some vsC) (hsc : ScOk scope = true)
    (hrun : CompRun c k scope target ifs elt xs ⟨vsC, σ₁.pl⟩ out σC) (hlen : xs.length ≤ 100000) (hfold : ∀ env x, foldedSetIterable iter env x = pure x) :
    TrE c k sc σ (.ListComp elt [⟨target, iter, ifs, 0⟩] scope pos) (.list out) { σ₁ with pl := σC.pl } := by
  intro A env g s Q E L V F hQ
  show wpAny _ _ (comprehension (.ListComp elt [⟨target, iter, ifs, 0⟩] scope pos) scope env iter.pos (newList []) false (eval iter env) none) _ _ _
  refine comp_core he hp h0 hcap hsc hrun hlen hfold L V F fun gO s' Lc D m l F' hfx hns st r => ?_
  obtain ⟨_, un⟩ := F'.unprot hfx hns
  refine ⟨m, hns, fun h' sb => hQ _ gO _ ⟨l, un h' sb, ?_⟩ r⟩
  have muL : ∀ a, s.heap.get? a = none → True := fun _ _ => trivial
  have F2 := un h' sb
  have F0 := un s'.heap ⟨rfl, fun _ _ => rfl⟩
  obtain ⟨m2, hm2⟩ := F2.fs.ns
  refine st.trans ⟨fun mm hm => ?_, fun x a v hx hc => ?_⟩
  · by_cases q : env.locals = Lc
    · exfalso
      have := F'.fs.nsm.2.1
      obtain ⟨o, es, ep, e, d, _⟩ := id hns
      rw [q, G.prot_in (by simp), e] at this; cases this
    · obtain ⟨o, es, ep, e, r⟩ := hm
      exact ⟨o, es, ep, (sb.2 _ q).trans e, r⟩
  · obtain ⟨o, e, d⟩ := hc
    by_cases q : a = Lc
    · exfalso
      obtain ⟨o', es, ep, e', d', _⟩ := id hns
      rw [q, e'] at e; cases e; rw [d'] at d; cases d
    · exact ⟨o, (sb.2 _ q).trans e, d⟩
theorem tr_assign_comp {x : Str} {p' cpos pos : Pos} {i : Nat} {kd : NameKind} {elt target iter : Expr} {ifs : List Expr} {scope : Scope} {p : PV} {xs out : List PV} {vs0 vsC : List (Option Bind)} {σC : St}
    (hi : vloc sc x = some (i, kd)) (hk : stK kd = true)
    (he : TrE c k sc σ iter p σ₁) (hp : SrcOk p xs) (h0 : capVs sc σ.vs scope = some vs0) (hcap : capVs sc σ₁.vs scope = some vsC) (hsc : ScOk scope = true)
    (hrun : CompRun c k scope target ifs elt xs ⟨vsC, σ₁.pl⟩ out σC) (hlen : xs.length ≤ 100000) (hfold : ∀ env x, foldedSetIterable iter env x = pure x) :
    TrS c k sc σ (.Assign [.Name x p'] (.ListComp elt [⟨target, iter, ifs, 0⟩] scope cpos) pos) .next (St.set { σ₁ with pl := σC.pl } i (.val (.list out))) := by
  intro A env g s Q E L V F hQ
  have hsw : ∃ b, swapsWithSole [.Name x p'] (.ListComp elt [⟨target, iter, ifs, 0⟩] scope cpos) pos.line env = pure b := ⟨_, rfl⟩
  obtain ⟨b, hb⟩ := hsw
  rw [exec_Assign_arm]
  refine wpAny_bind (wpAny_standAt ?_)
  rw [hb]
  refine wpAny_bind (wpAny_pure ?_)
  cases b with
  | true =>
    rw [if_pos rfl]
    refine wpAny_bind ?_
    rw [arm_evalThenUse_ListComp]
    refine wpAny_bind (comp_core he hp h0 hcap hsc hrun hlen hfold L V F fun gO s' Lc D m l F' hfx hns st r => ?_)
    unfold compPost
    dsimp only
    have hass : assignAll (.ref D) ((assignEach [.Name x p'] env).map (·.2)) = assign (.Name x p') env (.ref D) := rfl
    rw [hass]
    refine wpAny_assign_Name (store_var (b := .val (.list out)) V F' hi (stK_or hk) ?_ (fun h => by cases h) fun s'' F'' => ?_)
    · exact Rep.mono (g := gO) (g' := gO.prot s'.heap [Lc]) (fun _ _ q => q) (fun _ _ q => q) r
    · obtain ⟨hn2, un⟩ := F''.unprot hfx hns
      exact ⟨m, hn2, fun h' sb => wpAny_pure (wpAny_pure (hQ _ gO _ l (un h' sb) trivial))⟩
  | false =>
    rw [if_neg (by decide)]
    refine wpAny_bind (tr_comp he hp h0 hcap hsc hrun hlen hfold A env g s _ E L V F fun v g' s' N r => ?_)
    show wpAny _ _ (do let w ← pure none; assignStores env v w ((assignEach [.Name x p'] env).map (·.2))) _ _ _
    refine wpAny_bind (wpAny_pure ?_)
    show wpAny _ _ (do assign (.Name x p') env v; pure Flow.next) _ _ _
    refine wpAny_bind (wpAny_assign_Name (store_var (b := .val (.list out)) V N.sim hi (stK_or hk) r (fun h => by cases h) fun s'' F'' => ?_))
    exact wpAny_pure (hQ _ g' s'' N.le F'' trivial)
inductive TrAL (c : KB) (k : Nat) (sc : Scope) : St → List Expr → List PV → St → Prop
  | nil {σ : St} : TrAL c k sc σ [] [] σ
  | cons {σ σ₁ σ' : St} {t : Expr} {ts : List Expr} {p : PV} {ps : List PV} : TrA c k sc σ t p σ₁ → TrAL c k sc σ₁ ts ps σ' → TrAL c k sc σ (t :: ts) (p :: ps) σ'
theorem TrAL.len {ts : List Expr} {ps : List PV} {σ : St} (h : TrAL c k sc σ ts ps σ') : ts.length = ps.length := by
  induction h with
  | nil => rfl
  | cons _ _ ih => simp [ih]
theorem tral_run {ts : List Expr} {ps : List PV} {σ : St} {A : Around} {env : Env} {E : Value → Shared → Prop} (h : TrAL c k sc σ ts ps σ') (L : Lim k A) (V : EnvSc env sc) : ∀ {vs : List Value} {g : G} {s : Shared} {Q : Unit → Shared → Prop}, FSim c sc env σ g s → Reps c.w g vs ps →
    (∀ g' s', g.le g' → FSim c sc env σ' g' s' → Q () s') → wpAny (model c.prog c.w) A (assignInOrder (ts.map fun t => assign t env) vs) Q E s := by
  induction h with
  | nil =>
    intro vs g s Q F r hQ
    cases r
    exact wpAny_assignInOrder_none (hQ g s (.refl g) F)
  | cons h _ ih =>
    intro vs g s Q F r hQ
    cases r with
    | cons r rs =>
      refine wpAny_assignInOrder_more (h A env g s _ _ E L V F r fun g' s' l F' => ?_)
      exact ih F' (rs.le l) fun g'' s'' l' F'' => hQ g'' s'' (l.trans l') F''
theorem tra_tuple {elts : List Expr} {n : Nat} {pos : Pos} {ps : List PV} (h : TrAL c k sc σ elts ps σ') (hp : ∀ env, assignEach elts env = elts.map fun t => (false, assign t env)) : TrA c k sc σ (.Tuple elts n pos) (.tup ps) σ' := by
  intro A env g s v Q E L V F r hQ
  cases r with
  | tup e rs sz =>
    rename_i a its n
    have hl := rs.length
    have hl2 := h.len
    rw [Array.length_toList] at hl
    refine wpAny_assign_Tuple L.hd (IsTuple_of (F.gs.fz _ _ e)) (by rw [hp]; simp; omega) ?_ fun h' hx => ?_
    · rw [hp, List.findIdx?_eq_none_iff]
      intro x hx
      obtain ⟨t, _, rfl⟩ := List.mem_map.mp hx
      rfl
    · have hm : (assignEach elts env).map (·.2) = elts.map fun t => assign t env := by rw [hp]; simp
      rw [hm]
      exact tral_run (E := E) h L V (F.ext (s' := { s with heap := h' }) (fun b o e => hx b o (Nat.ne_of_lt (Heap.lt_size e)) e) rfl rfl) rs hQ
theorem tr_assign_to {t e : Expr} {pos : Pos} {p : PV} (he : TrE c k sc σ e p σ₁) (ht : TrA c k sc σ₁ t p σ₂) (hs : ∀ env, swapsWithSole [t] e pos.line env = pure false) (hw : ∀ env, swappedStores [t] e env = pure none)
    (hone : ∀ env, (assignEach [t] env).map (·.2) = [assign t env]) : TrS c k sc σ (.Assign [t] e pos) .next σ₂ := by
  intro A env g s Q E L V F hQ
  refine wpAny_Assign_stores (he A env g s _ E L V F fun v g' s' N r => ?_) (hs env) (hw env)
  rw [hone]
  show wpAny _ _ (assign t env v) _ _ _
  exact ht A env g' s' v _ E L V N.sim r fun g'' s'' l F'' => hQ _ g'' s'' (N.le.trans l) F'' trivial
end
end RM
end
noncomputable section
open PySem.SeqAt PySem.MeetsSeq
namespace RM
section
variable {c : KB} {k : Nat} {sc : Scope} {σ σ' σ₁ σ₂ σ₃ : St} {pl : List PRec} {g g' : G} {s s' : Shared} {env : Env}
def G.addFzs (g : G) (l : List (Addr × Obj)) : G := { g with fz := fun b => match l.lookup b with | some o => some o | none => g.fz b }
theorem lookup_mem {l : List (Addr × Obj)} {a : Addr} {o : Obj} (h : l.lookup a = some o) : (a, o) ∈ l := by
  induction l with
  | nil => cases h
  | cons p r ih =>
    obtain ⟨b, o'⟩ := p
    rw [List.lookup_cons] at h
    cases q : a == b with
    | true => simp only [q] at h; cases h; have : a = b := by simpa using q
              subst this; exact List.mem_cons_self
    | false => simp only [q] at h; exact List.mem_cons_of_mem _ (ih h)
theorem FSim.freezes (x : FSim c sc env σ g s) {l : List (Addr × Obj)} (hl : ∀ p ∈ l, s.heap.get? p.1 = none ∧ s'.heap.get? p.1 = some p.2) (K : HExt s.heap s'.heap) (hg : s'.gens = s.gens) (hos : s'.os = s.os) :
    FSim c sc env σ (g.addFzs l) s' ∧ g.le (g.addFzs l) ∧ ∀ p ∈ l, (g.addFzs l).fz p.1 = some p.2 := by
  have mu : ∀ p ∈ l, Mut g p.1 := fun p hp => x.gs.fresh (hl p hp).1
  have nol : ∀ {b o}, g.fz b = some o → l.lookup b = none := fun {b o} e => by
    cases q : l.lookup b with
    | none => rfl
    | some o' => have := (mu _ (lookup_mem q)).1; rw [e] at this; cases this
  have cs : ∀ {b o}, (g.addFzs l).fz b = some o → (b, o) ∈ l ∨ g.fz b = some o := fun {b o} e => by
    simp only [G.addFzs] at e
    split at e
    · rename_i q; cases e; exact .inl (lookup_mem q)
    · exact .inr e
  have lle : g.le (g.addFzs l) := ⟨fun _ _ e => e, fun _ _ e => e, fun b o' e => by simp only [G.addFzs, nol e]; exact e, rfl⟩
  have none_of : ∀ {b}, g.fz b = none → (∀ o, (b, o) ∉ l) → (g.addFzs l).fz b = none := fun {b} e hb => by
    cases q : (g.addFzs l).fz b with
    | none => rfl
    | some o => rcases cs q with h | h
                · exact absurd h (hb o)
                · rw [e] at h; cases h
  refine ⟨⟨x.gs.evolve lle rfl rfl K (fun b o' e => ?_) (fun b o' e => ?_) (fun b hb => ?_) hg hos,
    FS.evolve x.gs x.fs (fun _ _ e => e) lle.fz (fun b o' e _ _ => K _ _ e) (fun b o' e m => ?_)⟩, lle, fun p hp => ?_⟩
  · rcases cs e with h | h
    · exact (hl _ h).2
    · exact K _ _ (x.gs.fz _ _ h)
  · rcases cs e with h | h
    · exact (mu _ h).2.1
    · exact x.gs.dis _ _ h
  · exact none_of (x.gs.dxf b hb).1 fun o q => (mu _ q).2.2 hb
  · refine ⟨none_of m.1 fun o q => ?_, m.2.1, m.2.2⟩
    have := (hl _ q).1; rw [e] at this; cases this
  · cases q : l.lookup p.1 with
    | none =>
      exfalso
      rw [List.lookup_eq_none_iff] at q
      have := q p hp
      simp at this
    | some o =>
      simp only [G.addFzs, q]
      have h1 := (hl _ (lookup_mem q)).2
      have h2 := (hl _ hp).2
      rw [h1] at h2; exact h2
theorem tr_index {α : Type} [DecidableEq α] {d : Nat} {emb : α → PV} (hE : EqEmb c d emb) (hd : d ≤ 50) {o : Expr} {apos pos : Pos} {e : Expr} {l : List α} {a : α} {xs : List PV} {pa : PV} (ho : TrE c k sc σ o (.list xs) σ₁) (hxs : xs = l.map emb)
    (hp : PlainArgs [e]) (he : TrE c k sc σ₁ e pa σ₂) (hpa : pa = emb a) (ha : a ∈ l) (hb : ∀ env, attributeBase o "index" env (eval o env) = eval o env) (hl : (apos.endLine == pos.line) = true) :
    TrE c k sc σ (.Call (.Attribute o "index" apos) [e] [] pos) (.int (l.idxOf a : Nat)) σ₂ := by
  subst hxs; subst hpa
  intro A env g s Q E L V F hQ
  refine call_attr hb hp (by simp) hl (ho A env g s _ E L V F fun v g1 s1 N1 rv pl0 => ?_)
  obtain ⟨ad, its, n, rfl, e1, r, sz⟩ := Sees.list N1.sim.gs (.inl rv)
  refine getMethod_builtin (T := "list") ⟨_, e1, rfl⟩ PySem.F.plainAttrs_list PySem.F.slot_list_index PySem.F.type_list_index (fun a' q => by cases q; exact ⟨_, e1, rfl⟩) ?_
  have hplain : (backTo pos (starEach [e] env)).any (·.1) = false := by
    rw [hp env, List.any_eq_false]
    intro y hy
    simp only [backTo, List.map_map, List.mem_map, Function.comp] at hy
    obtain ⟨z, _, rfl⟩ := hy
    simp
  refine Calls.callWith_builtin hplain (evalArgs_tr hp (tra_cons (fun env => by have := hp env; simpa [starEach, evalEach] using this) he tra_nil) L V N1.sim fun vs g' s' N R => ?_)
  cases R with
  | cons rv2 R =>
    cases R
    obtain ⟨a2, its2, n2, q2, e2, r2, sz2⟩ := Sees.list N.sim.gs (.inl (rv.le N.le))
    cases q2
    have hsz : its2.size = l.length := by have := r2.length; simpa using this
    obtain ⟨f, hf, hfm, hc⟩ := eq_probe hE N.sim.gs (A := A.in1.in1) (by have := L.u; show A.units + 1 + 1 + d < cLine; omega) rv2 r2
    obtain ⟨j, hj, hja, hjn, hjx⟩ := findIdx_split ha
    have hjs : j < its2.size := by omega
    refine call_meets PySem.F.slot_list_index ⟨_, e2, rfl⟩ PySem.F.entry_list_index (PySem.F.args_list_index_2 _ _)
      (list_indexAt ad its2 n2 none #[] _ f j hjs (by rw [sizeLine_eq] at sz2; omega) (by rw [hfm j hjs, hja]; simp) (fun m hm hmj => by rw [hfm m hm]; simpa using hjn m hmj)) ⟨e2, fun y hy => (hf y hy).of_in1, ?_⟩
    subst hjx
    exact hQ _ g' _ ⟨(N1.trans N).le, N.sim.toks _, (N1.trans N).stay⟩ (.int _ _)
theorem type_call {f : Str} {T : String} {p' pos : Pos} {args : List Expr} {ps : List PV} {i : Nat} {A : Around} {Q : Value → Shared → Prop} {E : Value → Shared → Prop} (hi : vloc sc f = some (i, .globalImplicit)) (hg : c.mg f = none) (hb : bootBuiltins f = some (.type T)) (hne : f ≠ "__name__")
    (hp : PlainArgs args) (ha : TrArgs c k sc σ args ps σ₁) (L : Lim k A) (V : EnvSc env sc) (F : FSim c sc env σ g s)
    (h : ∀ vs g' s', Next c sc env σ₁ g s g' s' → Reps c.w g' vs ps → wpAny (model c.prog c.w) A (call (.type T) vs) Q E s') : wpAny (model c.prog c.w) A (eval (.Call (.Name f p') args [] pos) env) Q E s := by
  refine wpAny_Call_NameR (load_builtin V F.gs hi hg hb hne ?_)
  have hplain : (backTo pos (starEach args env)).any (·.1) = false := by
    rw [hp env, List.any_eq_false]
    intro y hy
    simp only [backTo, List.map_map, List.mem_map, Function.comp] at hy
    obtain ⟨z, _, rfl⟩ := hy
    simp
  exact PySem.callWith_type hplain (evalArgs_tr hp ha L V F fun vs g' s' N R => h vs g' s' N R)
theorem args1 {e : Expr} {p : PV} (hp : PlainArgs [e]) (he : TrE c k sc σ e p σ₁) : TrArgs c k sc σ [e] [p] σ₁ :=
  tra_cons (fun env => by have := hp env; simpa [starEach, evalEach] using this) he tra_nil
theorem tr_list_copy {p' pos : Pos} {e : Expr} {xs : List PV} {i : Nat} (hi : vloc sc "list" = some (i, .globalImplicit)) (hg : c.mg "list" = none) (hp : PlainArgs [e]) (he : TrE c k sc σ e (.list xs) σ₁) : TrN c k sc σ (.Call (.Name "list" p') [e] [] pos) (.lst xs) σ₁ := by
  intro A env g s Q E L V F hQ
  refine type_call (T := "list") hi hg (by decide +kernel) (by decide +kernel) hp (args1 hp he) L V F fun vs g' s' N R => ?_
  cases R with
  | cons rv R =>
    cases R
    obtain ⟨ad, its, n, rfl, e1, r, sz⟩ := Sees.list N.sim.gs (.inl rv)
    refine call_list_seq ad (.inl rfl) e1 rfl rfl (fun h' c' K hget => ?_) sz
    exact hQ _ g' s' _ N K (push_none _) rfl rfl ⟨its, c', hget, r, sz⟩
theorem pairs_repV : ∀ {es : List DictEntry} {kvs : List (Str × PV)}, RepD c.w g es kvs → ∃ kv2 : List (Str × Value), PySem.Pairs (strKind c.prog c.w) es kv2 ∧ kv2.map (·.1) = kvs.map (·.1) ∧ Reps c.w g (kv2.map (·.2)) (kvs.map (·.2))
  | _, _, .nil => ⟨[], .nil, rfl, .nil⟩
  | _, _, .cons (k := ky) (t := t) (v := v) rv rd => by
    obtain ⟨l, h1, h2, h3⟩ := pairs_repV rd
    exact ⟨(ky, v) :: l, .cons (strKind_is _ _ _ _) rfl h1, by simp [h2], .cons rv h3⟩
theorem dictAt_repV {a : Addr} {es : List DictEntry} {n : Nat} {kvs : List (Str × PV)} {h : Heap} (e : h.get? a = some (dictOf es n)) (r : RepD c.w g es kvs) (nd : (kvs.map (·.1)).Nodup) :
    ∃ kv2 : List (Str × Value), h.DictAt (strKind c.prog c.w) a kv2 n ∧ kv2.map (·.1) = kvs.map (·.1) ∧ Reps c.w g (kv2.map (·.2)) (kvs.map (·.2)) := by
  obtain ⟨kv2, h1, h2, h3⟩ := pairs_repV r
  exact ⟨kv2, ⟨_, _, e, ⟨rfl, rfl, rfl⟩, rfl, fun e he => keysOf_rep r e (by simpa using he), by simpa using h1, by rw [h2]; exact nd⟩, h2, h3⟩
theorem reps_of {xs : List PV} : ∀ {vs : List Value}, vs.length = xs.length → (∀ (j : Nat) (v : Value), vs[j]? = some v → ∃ p, xs[j]? = some p ∧ Rep c.w g v p) → Reps c.w g vs xs := by
  induction xs with
  | nil => intro vs h _; have : vs = [] := by simpa using h
           subst this; exact .nil
  | cons x xs ih =>
    intro vs h hv
    cases vs with
    | nil => simp at h
    | cons v vs =>
      obtain ⟨p, hp, r⟩ := hv 0 v rfl
      simp at hp; subst hp
      exact .cons r (ih (by simpa using h) fun j v hj => by simpa using hv (j + 1) v (by simpa using hj))
theorem tr_list_keys {p' pos : Pos} {e : Expr} {kvs : List (Str × PV)} {i : Nat} (hi : vloc sc "list" = some (i, .globalImplicit)) (hg : c.mg "list" = none) (hp : PlainArgs [e]) (he : TrE c k sc σ e (.dict kvs) σ₁) : TrN c k sc σ (.Call (.Name "list" p') [e] [] pos) (.lst (keysPV kvs)) σ₁ := by
  intro A env g s Q E L V F hQ
  refine type_call (T := "list") hi hg (by decide +kernel) (by decide +kernel) hp (args1 hp he) L V F fun vs g' s' N R => ?_
  cases R with
  | cons rv R =>
    cases R
    cases rv with
    | dict lo ef r nd sz =>
      have e1 := N.sim.gs.fz _ _ ef
      obtain ⟨kv2, hat, hk, _⟩ := dictAt_repV (c := c) e1 r nd
      have hlen : kv2.length = kvs.length := by have := congrArg List.length hk; simpa using this
      have hl2 := r.length
      refine kdl_call (kdl_dict (knd := strKind c.prog c.w) lo) L.hd hat (by rw [hlen, ← hl2, sizeLine_eq]; omega) fun h' tk acc' c' K hget hacc => ?_
      have F2 := N.sim.toks tk
      refine hQ _ g' { s' with toks := tk } _ ⟨N.le, F2, N.stay⟩ K (push_none _) rfl rfl ⟨acc', c', hget, reps_of ?_ fun j v hj => ?_, ?_⟩
      · rw [Array.length_toList, hacc.1, hlen]; simp [keysPV]
      · obtain ⟨ky, x, h1, h2⟩ := hacc.2 j v (by simpa using hj)
        obtain ⟨t, rfl⟩ := Value.isStrOf_shape h2
        have h3 : (kvs.map (·.1))[j]? = some ky := by rw [← hk]; simp [h1]
        refine ⟨.str ky, ?_, .str _ _⟩
        simp only [keysPV, List.getElem?_map]
        rw [List.getElem?_map] at h3
        cases q : kvs[j]? with
        | none => rw [q] at h3; cases h3
        | some p => rw [q] at h3; simp at h3; simp [h3]
      · rw [hacc.1, hlen, ← hl2, sizeLine_eq]; omega
theorem tr_list_values {p' apos pos cpos : Pos} {o : Expr} {kvs : List (Str × PV)} {i : Nat} (hi : vloc sc "list" = some (i, .globalImplicit)) (hg : c.mg "list" = none) (ho : TrE c k sc σ o (.dict kvs) σ₁)
    (hb : ∀ env, attributeBase o "values" env (eval o env) = eval o env) (hl : (apos.endLine == cpos.line) = true) (hp : PlainArgs [.Call (.Attribute o "values" apos) [] [] cpos]) :
    TrN c k sc σ (.Call (.Name "list" p') [.Call (.Attribute o "values" apos) [] [] cpos] [] pos) (.lst (kvs.map (·.2))) σ₁ := by
  intro A env g s Q E L V F hQ
  refine wpAny_Call_NameR (load_builtin V F.gs hi hg (v := .type "list") (by decide +kernel) (by decide +kernel) ?_)
  have hE : starEach [Expr.Call (.Attribute o "values" apos) [] [] cpos] env = [(false, eval (.Call (.Attribute o "values" apos) [] [] cpos) env)] := by have := hp env; simpa [starEach, evalEach] using this
  rw [hE]
  refine PySem.callWith_type rfl (Calls.evalArgs_plain (Calls.spliced_cons ?_))
  refine call_attr hb (fun _ => rfl) (by simp) hl (ho A env g s _ E L V F fun v g1 s1 N1 rv pl0 => ?_)
  cases rv with
  | dict lo ef r nd sz =>
    rename_i d es n
    have e1 := N1.sim.gs.fz _ _ ef
    obtain ⟨kv2, hat, hk, hv⟩ := dictAt_repV (c := c) e1 r nd
    have hlen : kv2.length = kvs.length := by have := congrArg List.length hk; simpa using this
    have hl2 := r.length
    refine getMethod_builtin (T := "dict") ⟨_, e1, rfl⟩ PySem.F.plainAttrs_dict PySem.F.slot_dict_values PySem.F.type_dict_values (fun a' q => by cases q; exact ⟨_, e1, rfl⟩) ?_
    refine Calls.callWith_builtin rfl (evalArgs_tr (fun _ => rfl) tra_nil L V N1.sim fun vs g' s' N R => ?_)
    cases R
    have hat' : s'.heap.DictAt (strKind c.prog c.w) d kv2 n := by
      obtain ⟨kv3, hat3, hk3, hv3⟩ := dictAt_repV (c := c) (N.sim.gs.fz _ _ (N.le.fz _ _ ef)) (r.le N.le) nd
      obtain ⟨o1, es1, q1, q2, q3, q4, q5, q6⟩ := hat
      rw [e1] at q1
      have e2 := N.sim.gs.fz _ _ (N.le.fz _ _ ef)
      cases q1
      exact ⟨_, _, e2, q2, q3, q4, q5, q6⟩
    refine call_meetsIn PySem.F.slot_dict_values ⟨_, N.sim.gs.fz _ _ (N.le.fz _ _ ef), rfl⟩ PySem.F.entry_dict_values (PySem.F.args_dict_values_1 _) (meets_dict_values (strKind c.prog c.w) d lo) ⟨⟨kv2, hat'.dictOf⟩, Calls.spliced_nil ?_⟩
    have F3 := N.sim.ext (s' := { s' with heap := s'.heap.push { cls := .type "dict_values", data := .fields #[.ref d] } }) (push_ext _ _) rfl rfl
    refine kdl_call (kdl_values (knd := strKind c.prog c.w) (d := d) (kvs := kv2) (ep := n)) L.hd ⟨⟨_, Heap.get?_push_size _ rfl, rfl, rfl⟩, hat'.push _⟩ (by rw [hlen, ← hl2, sizeLine_eq]; omega) fun h' tk acc' c' K hget hacc => ?_
    refine hQ _ g' _ _ ⟨N1.le.trans N.le, F3.toks tk, (N1.stay.trans N.stay).trans (.ext (push_ext _ _))⟩ K (push_none _) rfl rfl ⟨acc', c', hget, reps_of ?_ fun j v hj => ?_, ?_⟩
    · rw [Array.length_toList, hacc.1, hlen]; simp
    · obtain ⟨ky, h1⟩ := hacc.2 j v (by simpa using hj)
      obtain ⟨p, hp1, hp2⟩ := hv.getV (i := j) (v := v) (by simp [h1])
      exact ⟨p, hp1, hp2.le N.le⟩
    · rw [hacc.1, hlen, ← hl2, sizeLine_eq]; omega
end
end RM
end
noncomputable section
namespace RM
section
variable {c : KB} {k : Nat} {sc : Scope} {σ σ' σ₁ σ₂ σ₃ : St} {pl : List PRec} {g g' : G} {s s' : Shared} {env : Env}
theorem comp_run {α : Type} {f val : α → PV} {keep : α → Bool} {Inv : List (Option Bind) → Prop} {target elt : Expr} {ifs : List Expr} : ∀ {l : List α},
    (∀ a ∈ l, ∀ vs, Inv vs → ∃ vs', Inv vs' ∧ TrA c k sc ⟨vs, pl⟩ target (f a) ⟨vs', pl⟩ ∧ TrIfs c k sc ⟨vs', pl⟩ ifs (keep a) ⟨vs', pl⟩ ∧ (keep a = true → TrE c k sc ⟨vs', pl⟩ elt (val a) ⟨vs', pl⟩)) →
    ∀ vs, Inv vs → ∃ vs', CompRun c k sc target ifs elt (l.map f) ⟨vs, pl⟩ ((l.filter keep).map val) ⟨vs', pl⟩
  | [], _, vs, _ => ⟨vs, rfl, rfl⟩
  | a :: l, h, vs, hv => by
    obtain ⟨vs1, i1, h1, h2, h3⟩ := h a (by simp) vs hv
    obtain ⟨vs2, h4⟩ := comp_run (l := l) (fun b hb => h b (by simp [hb])) vs1 i1
    refine ⟨vs2, _, keep a, _, h1, h2, ?_⟩
    cases q : keep a with
    | true => exact ⟨val a, _, _, h3 q, h4, by simp [q]⟩
    | false =>
      simp only [Bool.false_eq_true, if_false]
      have : (a :: l).filter keep = l.filter keep := by simp [q]
      rw [this]; exact h4
theorem tr_compf {α : Type} {f val : α → PV} {keep : α → Bool} {Inv : List (Option Bind) → Prop} {l : List α} {xs : List PV} {elt target iter : Expr} {ifs : List Expr} {scope : Scope} {pos : Pos} {p : PV} {vs0 vsC : List (Option Bind)}
    (he : TrE c k sc σ iter p σ₁) (hp : SrcOk p xs) (hxs : xs = l.map f) (h0 : capVs sc σ.vs scope = some vs0) (hcap : capVs sc σ₁.vs scope = some vsC) (hsc : ScOk scope = true) (hi : Inv vsC)
    (hstep : ∀ a ∈ l, ∀ vs, Inv vs → ∃ vs', Inv vs' ∧ TrA c k scope ⟨vs, σ₁.pl⟩ target (f a) ⟨vs', σ₁.pl⟩ ∧ TrIfs c k scope ⟨vs', σ₁.pl⟩ ifs (keep a) ⟨vs', σ₁.pl⟩ ∧ (keep a = true → TrE c k scope ⟨vs', σ₁.pl⟩ elt (val a) ⟨vs', σ₁.pl⟩))
    (hlen : l.length ≤ 100000) (hfold : ∀ env x, foldedSetIterable iter env x = pure x) :
    TrE c k sc σ (.ListComp elt [⟨target, iter, ifs, 0⟩] scope pos) (.list ((l.filter keep).map val)) σ₁ := by
  obtain ⟨vs', hr⟩ := comp_run hstep vsC hi
  subst hxs
  have := tr_comp (pos := pos) he hp h0 hcap hsc hr (by simpa using hlen) hfold
  exact this
theorem tr_assign_compf {α : Type} {f val : α → PV} {keep : α → Bool} {Inv : List (Option Bind) → Prop} {l : List α} {xs : List PV} {x : Str} {p' cpos pos : Pos} {i : Nat} {kd : NameKind} {elt target iter : Expr} {ifs : List Expr} {scope : Scope} {p : PV} {vs0 vsC : List (Option Bind)}
    (hi' : vloc sc x = some (i, kd)) (hk : stK kd = true)
    (he : TrE c k sc σ iter p σ₁) (hp : SrcOk p xs) (hxs : xs = l.map f) (h0 : capVs sc σ.vs scope = some vs0) (hcap : capVs sc σ₁.vs scope = some vsC) (hsc : ScOk scope = true) (hi : Inv vsC)
    (hstep : ∀ a ∈ l, ∀ vs, Inv vs → ∃ vs', Inv vs' ∧ TrA c k scope ⟨vs, σ₁.pl⟩ target (f a) ⟨vs', σ₁.pl⟩ ∧ TrIfs c k scope ⟨vs', σ₁.pl⟩ ifs (keep a) ⟨vs', σ₁.pl⟩ ∧ (keep a = true → TrE c k scope ⟨vs', σ₁.pl⟩ elt (val a) ⟨vs', σ₁.pl⟩))
    (hlen : l.length ≤ 100000) (hfold : ∀ env x, foldedSetIterable iter env x = pure x) :
    TrS c k sc σ (.Assign [.Name x p'] (.ListComp elt [⟨target, iter, ifs, 0⟩] scope cpos) pos) .next (St.set σ₁ i (.val (.list ((l.filter keep).map val)))) := by
  obtain ⟨vs', hr⟩ := comp_run hstep vsC hi
  subst hxs
  have := tr_assign_comp (p' := p') (cpos := cpos) (pos := pos) hi' hk he hp h0 hcap hsc hr (by simpa using hlen) hfold
  exact this
theorem for_inv {α : Type} {f : α → PV} {target : Expr} {body : List Stmt} (St' : List α → St → Prop) (l0 : List α)
    (hs : ∀ a done rest σ, l0 = done ++ a :: rest → St' done σ → ∃ σ₁ fl σ₂, TrA c k sc σ target (f a) σ₁ ∧ TrSs c k sc σ₁ body fl σ₂ ∧ (fl = .next ∨ fl = .cont) ∧ St' (done ++ [a]) σ₂) : ∀ {l done : List α} {σ : St}, l0 = done ++ l → St' done σ →
    ∃ σ', ForRun c k sc target body (l.map f) σ .next σ' ∧ St' (done ++ l) σ'
  | [], done, σ, e, h => ⟨σ, ⟨rfl, rfl⟩, by simpa using h⟩
  | a :: l, done, σ, e, h => by
    obtain ⟨σ₁, fl, σ₂, h1, h2, h3, h4⟩ := hs a done l σ e h
    obtain ⟨σ', h5, h6⟩ := for_inv St' l0 hs (l := l) (done := done ++ [a]) (by simp [e]) h4
    refine ⟨σ', ⟨σ₁, fl, σ₂, h1, h2, ?_⟩, by simpa using h6⟩
    rcases h3 with rfl | rfl <;> exact h5
theorem tr_for_inv {α : Type} {f : α → PV} {target iter : Expr} {body : List Stmt} {pos : Pos} (St' : List α → St → Prop) {l : List α} {xs : List PV} (he : TrE c k sc σ iter (.list xs) σ₁) (hxs : xs = l.map f) (h0 : St' [] σ₁)
    (hs : ∀ a done rest σ, l = done ++ a :: rest → St' done σ → ∃ σ₁ fl σ₂, TrA c k sc σ target (f a) σ₁ ∧ TrSs c k sc σ₁ body fl σ₂ ∧ (fl = .next ∨ fl = .cont) ∧ St' (done ++ [a]) σ₂) (hfold : ∀ env x, foldedSetIterable iter env x = pure x) :
    ∃ σ', TrS c k sc σ (.For target iter body [] pos) .next σ' ∧ St' l σ' := by
  obtain ⟨σ', h1, h2⟩ := for_inv St' l hs (l := l) (done := []) rfl h0
  subst hxs
  exact ⟨σ', tr_for he h1 hfold, by simpa using h2⟩
theorem TrS.to {t : Stmt} {fl fl' : Fl} {σ'' : St} (h : TrS c k sc σ t fl σ') (e : σ' = σ'') (ef : fl = fl' := by rfl) : TrS c k sc σ t fl' σ'' := by subst e; subst ef; exact h
theorem TrSs.to {t : List Stmt} {fl fl' : Fl} {σ'' : St} (h : TrSs c k sc σ t fl σ') (e : σ' = σ'') (ef : fl = fl' := by rfl) : TrSs c k sc σ t fl' σ'' := by subst e; subst ef; exact h
theorem TrE.to {t : Expr} {p p' : PV} {σ'' : St} (h : TrE c k sc σ t p σ') (ep : p = p') (e : σ' = σ'' := by rfl) : TrE c k sc σ t p' σ'' := by subst e; subst ep; exact h
theorem TrT.to {t : Expr} {p p' : Bool} {σ'' : St} (h : TrT c k sc σ t p σ') (ep : p = p') (e : σ' = σ'' := by rfl) : TrT c k sc σ t p' σ'' := by subst e; subst ep; exact h
theorem TrA.to {t : Expr} {p : PV} {σ'' : St} (h : TrA c k sc σ t p σ') (e : σ' = σ'' := by rfl) : TrA c k sc σ t p σ'' := by subst e; exact h
theorem part_some {e : Expr} {z : Int} {n : Nat} (h : TrE c k sc σ e (.int z) σ') (hz : z = n) : TrPart c k sc σ (some e) (some n) σ' := by subst hz; exact h
theorem part_none : TrPart c k sc σ none none σ := rfl
theorem eqEmb_comp {α β : Type} [DecidableEq α] [DecidableEq β] {d : Nat} {emb : β → PV} (h : EqEmb c d emb) (f : α → β) (hf : ∀ a b, f a = f b → a = b) : EqEmb c d (fun a => emb (f a)) where
  inj := fun X _ _ _ r r' => hf _ _ (h.inj X r r')
  at' := fun X _ _ _ _ _ hu r r' => by
    have := h.at' X hu r r'
    rename_i a b _ _
    have e : decide (a = b) = decide (f a = f b) := decide_eq_decide.mpr ⟨fun q => by rw [q], hf _ _⟩
    rw [e]; exact this
end
end RM
end
noncomputable section
open PySem.SeqAt PySem.MeetsSeq
set_option maxRecDepth 100000
namespace RM
abbrev IsZipO (h : Heap) (z TI TO a : Addr) (f : Bool) : Prop :=
  h.get? z = some { cls := .type "zip", dict := none, data := .fields #[rawInt a, .bool f, .bool false, .ref TI, .ref TO], slots := #[] }
section
variable {prog : Program} {w : World} {A : Around} {E : Value → Shared → Prop} {s : Shared}
theorem zipO_free {z TI TO a : Addr} {f : Bool} {oa : Obj} {Q : Bool → Shared → Prop} (hz : IsZipO s.heap z TI TO a f) (ha : s.heap.get? a = some oa)
    (hQ : ∀ h', IsZipO h' z TI TO a true → Heap.SameBut z s.heap h' → Q false { s with heap := h' }) : wpAny (model prog w) A (Builtin.SmallTypes.ownedTupleIsFree (.ref z)) Q E s := by
  unfold Builtin.SmallTypes.ownedTupleIsFree
  refine wpAny_bind (wpAny_field hz rfl (x := rawInt a) rfl ?_)
  show wpAny _ _ (loadIfAlive ((a : Int).toNat) >>= _) _ _ _
  rw [Int.toNat_natCast]
  refine wpAny_bind (kdx_alive ha ?_)
  simp only [Option.isNone_some, Bool.false_eq_true, if_false]
  refine wpAny_bind (wpAny_field hz rfl (x := .bool f) rfl ?_)
  cases f with
  | true =>
    rw [if_neg (show ¬ ((Value.bool true != Value.bool true) = true) from Bool.false_ne_true)]
    exact wpAny_pure (hQ s.heap hz (Heap.SameBut.refl _ _))
  | false =>
    rw [if_pos (show (Value.bool false != Value.bool true) = true from rfl)]
    exact wpAny_bind (wpAny_setField_rec hz (by simp) fun h₃ he₃ hs₃ => wpAny_pure (hQ h₃ he₃ hs₃))
theorem zipO_item {z TI TO i1 i2 l1 l2 t : Addr} {f : Bool} {ot : Obj} {k1 k2 : Nat} {xs ys : Array Value} {x y : Value} {Q : Option Value → Shared → Prop} (D : ZipApart z TI TO i1 i2 l1 l2)
    (hz : IsZipO s.heap z TI TO t f) (ht : s.heap.get? t = some ot) (hTI : IsPair s.heap TI (.ref i1) (.ref i2))
    (h1 : s.heap.IsListIter i1 l1 k1) (h2 : s.heap.IsListIter i2 l2 k2) (hl1 : s.heap.IsList l1 xs) (hl2 : s.heap.IsList l2 ys) (hx : xs[k1]? = some x) (hy : ys[k2]? = some y)
    (hQ : ∀ h', IsZipO h' z TI TO t true → h'.IsListIter i1 l1 (k1 + 1) → h'.IsListIter i2 l2 (k2 + 1) → IsPair h' s.heap.objs.size x y → h'.objs.size = s.heap.objs.size + 1 →
      (∀ c o, c ≠ z → c ≠ i1 → c ≠ i2 → s.heap.get? c = some o → h'.get? c = some o) → Q (some (.ref s.heap.objs.size)) { s with heap := h' }) :
    wpAny (model prog w) A (pyNext (.ref z)) Q E s := by
  have hT : s.TypeIs (.ref z) "zip" := ⟨_, hz, rfl⟩
  unfold pyNext
  refine wpAny_bind (wpAny_attempt (wpAny_callSpecial?_slot (name := Str.ofString "__next__") hT F.slot_zip_next
    (wpAny_call_entry F.slot_zip_next hT F.entry_zip_next ?_ (F.args_zip_next_1 _))))
  show wpAny _ _ (field (.ref z) 2 >>= _) _ _ _
  refine wpAny_bind (wpAny_field hz rfl (x := .bool false) rfl ?_)
  show wpAny _ _ (field (.ref z) 3 >>= _) _ _ _
  refine wpAny_bind (wpAny_field hz rfl (x := .ref TI) rfl ?_)
  refine wpAny_bind (wpAny_seqItems hTI rfl ?_)
  show wpAny _ _ (Builtin.SmallTypes.ownedTupleIsFree (.ref z) >>= _) _ _ _
  refine wpAny_bind (zipO_free hz ht fun h₁ hz₁ hs₁ => ?_)
  simp only [Bool.false_eq_true, if_false]
  refine wpAny_bind ?_
  rw [← Array.forIn_toList]
  simp only [List.forIn_cons, List.forIn_nil]
  refine wpAny_bind (wpAny_bind (wpAny_holding ?_))
  show wpAny _ _ (Builtin.SmallTypes.nextOf (.ref i1) >>= _) _ _ _
  refine wpAny_bind (wpAny_nextOf_list_item (h1.extBut hs₁.extBut D.i1z) (hl1.extBut hs₁.extBut D.l1z) hx fun h₂ h1₂ hs₂ => wpAny_pure ?_)
  refine wpAny_pure ?_
  refine wpAny_bind (wpAny_bind (wpAny_holding ?_))
  show wpAny _ _ (Builtin.SmallTypes.nextOf (.ref i2) >>= _) _ _ _
  refine wpAny_bind (wpAny_nextOf_list_item ((h2.extBut hs₁.extBut D.i2z).extBut hs₂.extBut D.i12.symm)
    ((hl2.extBut hs₁.extBut D.l2z).extBut hs₂.extBut D.l2i1) hy fun h₃ h2₃ hs₃ => wpAny_pure ?_)
  refine wpAny_pure (wpAny_pure ?_)
  refine wpAny_bind (wpAny_newTuple (hsz := by show 2 ≤ sizeLine; rw [sizeLine_eq]; decide) ?_)
  have hsz : h₃.objs.size = s.heap.objs.size := by rw [hs₃.1, hs₂.1, hs₁.1]
  have keep : ∀ c o, c ≠ z → c ≠ i1 → c ≠ i2 → s.heap.get? c = some o → (h₃.push { cls := .type "tuple", data := .seq #[x, y] }).get? c = some o := fun c o c1 c2 c3 e =>
    Heap.get?_push_of_some _ (hs₃.extBut _ _ c3 (hs₂.extBut _ _ c2 (hs₁.extBut _ _ c1 e)))
  have hz₃ : IsZipO h₃ z TI TO t true := hs₃.extBut _ _ D.i2z.symm (hs₂.extBut _ _ D.i1z.symm hz₁)
  refine wpAny_pure ⟨_, rfl, wpAny_pure ?_⟩
  show Q (some (.ref h₃.objs.size)) _
  rw [hsz]
  have hp : IsPair (h₃.push { cls := .type "tuple", data := .seq #[x, y] }) s.heap.objs.size x y := by rw [← hsz]; exact Heap.get?_push_size _ rfl
  exact hQ _ (Heap.get?_push_of_some _ hz₃) ((h1₂.extBut hs₃.extBut D.i12).at fun o e => Heap.get?_push_of_some _ e) (h2₃.at fun o e => Heap.get?_push_of_some _ e) hp (by rw [Heap.size_push, hsz]) keep
theorem zipO_end {z TI TO i1 i2 l1 l2 t : Addr} {f : Bool} {ot : Obj} {k1 : Nat} {xs : Array Value} {Q : Option Value → Shared → Prop} (hh : A.handled = none) (D : ZipApart z TI TO i1 i2 l1 l2)
    (hz : IsZipO s.heap z TI TO t f) (ht : s.heap.get? t = some ot) (hTI : IsPair s.heap TI (.ref i1) (.ref i2))
    (h1 : s.heap.IsListIter i1 l1 k1) (hl1 : s.heap.IsList l1 xs) (hx : xs[k1]? = none)
    (hQ : ∀ h', (∀ c o, c ≠ z → c ≠ i1 → c ≠ i2 → s.heap.get? c = some o → h'.get? c = some o) → Q none { s with heap := h' }) :
    wpAny (model prog w) A (pyNext (.ref z)) Q E s := by
  have hT : s.TypeIs (.ref z) "zip" := ⟨_, hz, rfl⟩
  unfold pyNext
  refine wpAny_bind (wpAny_attempt (wpAny_callSpecial?_slot (name := Str.ofString "__next__") hT F.slot_zip_next
    (wpAny_call_entry F.slot_zip_next hT F.entry_zip_next ?_ (F.args_zip_next_1 _))))
  show wpAny _ _ (field (.ref z) 2 >>= _) _ _ _
  refine wpAny_bind (wpAny_field hz rfl (x := .bool false) rfl ?_)
  show wpAny _ _ (field (.ref z) 3 >>= _) _ _ _
  refine wpAny_bind (wpAny_field hz rfl (x := .ref TI) rfl ?_)
  refine wpAny_bind (wpAny_seqItems hTI rfl ?_)
  show wpAny _ _ (Builtin.SmallTypes.ownedTupleIsFree (.ref z) >>= _) _ _ _
  refine wpAny_bind (zipO_free hz ht fun h₁ hz₁ hs₁ => ?_)
  simp only [Bool.false_eq_true, if_false]
  refine wpAny_bind ?_
  rw [← Array.forIn_toList]
  simp only [List.forIn_cons, List.forIn_nil]
  refine wpAny_bind (wpAny_bind (wpAny_holding ?_))
  show wpAny _ _ (Builtin.SmallTypes.nextOf (.ref i1) >>= _) _ _ _
  refine wpAny_bind (wpAny_nextOf_list_end hh (h1.extBut hs₁.extBut D.i1z) (hl1.extBut hs₁.extBut D.l1z) hx fun h₂ e hs₂ he => ?_)
  obtain ⟨o, ho, hc⟩ := he
  refine wpAny_bind (wpAny_isInstance (T := "StopIteration") (b := true) ⟨o, ho, hc⟩ isSubtype_stop ?_)
  exact wpAny_pure (hQ _ fun c o c1 c2 c3 e => hs₂ _ _ c2 (hs₁.extBut _ _ c1 e))
end
theorem zip_no_len : typeLookup (.type "zip") "__len__" = pure none := by rw [typeLookup_type, builtinLookup_eq_fast]; kernel_rfl
theorem zip_no_hint : typeLookup (.type "zip") "__length_hint__" = pure none := by rw [typeLookup_type, builtinLookup_eq_fast]; kernel_rfl
theorem hi_ne {h0 a b : Nat} (h1 : h0 - 1 < a) (h2 : b < h0) : a ≠ b := by omega
theorem hi_lt {h0 b : Nat} (h1 : h0 ≤ b) (h2 : 0 < h0) : h0 - 1 < b := by omega
def ZipSt (h : Heap) (z TI TO i1 i2 S : Addr) (i : Nat) : Prop :=
  IsPair h TI (.ref i1) (.ref i2) ∧ (∃ l1, h.IsListIter i1 l1 i) ∧
  ((i = 0 ∧ IsZip h z TI TO .none ∧ ∃ a b, IsPair h TO a b) ∨ ∃ t f ot, IsZipO h z TI TO t f ∧ h.get? t = some ot ∧ t ≠ z ∧ t ≠ i1 ∧ t ≠ i2 ∧ t ≠ S)
structure ZipG (xs ys : Array Value) (lo : Addr) (h : Heap) (as : List Addr) : Prop where
  rise : as.Pairwise (· < ·)
  above : ∀ a ∈ as, lo < a
  pairs : ∀ (j : Nat) (a : Addr), as[j]? = some a → ∃ x y, xs[j]? = some x ∧ ys[j]? = some y ∧ IsPair h a x y
section
variable {prog : Program} {w : World} {A : Around} {s : Shared} {R : Result → Shared → Prop}
theorem zip_loop {S z TI TO i1 i2 l1 l2 : Addr} {xs ys : Array Value} (hh : A.handled = none) (D : ZipApart z TI TO i1 i2 l1 l2) (hS : S ≠ z ∧ S ≠ TI ∧ S ≠ TO ∧ S ≠ i1 ∧ S ≠ i2 ∧ S ≠ l1 ∧ S ≠ l2) {h0 : Nat} (hlt : TI < z ∧ TO < z ∧ i1 < z ∧ i2 < z ∧ S < h0 ∧ z < h0) (hxy : xs.size = ys.size) (hpos : 0 < xs.size) (hn : xs.size ≤ sizeLine) (res : Value) {h₁ : Heap}
    (hR : ∀ h' tk acc c as, (∀ b o, b ≠ S → b ≠ z → b ≠ TO → b ≠ i1 → b ≠ i2 → h₁.get? b = some o → h'.get? b = some o) → h'.get? S = some (listOf acc c) → as.length = xs.size → ZipG xs ys (h0 - 1) h' as →
      acc.toList = as.map Value.ref → R (.ok (.ret res)) { s with heap := h', toks := tk }) :
    ∀ (k i : Nat) (h : Heap) (tk c : Nat) (acc : Array Value) (as : List Addr), xs.size - i = k → i ≤ xs.size → ZipSt h z TI TO i1 i2 S i → h.IsListIter i1 l1 i → h.IsListIter i2 l2 i → h.IsList l1 xs → h.IsList l2 ys →
      (∀ b o, b ≠ S → b ≠ z → b ≠ TO → b ≠ i1 → b ≠ i2 → h₁.get? b = some o → h.get? b = some o) →
      h.get? S = some (listOf acc c) → acc.toList = as.map Value.ref → as.length = i → ZipG xs ys (h0 - 1) h as → h0 ≤ h.objs.size →
      codeAny (model prog w) A (.builtin "list.extend.loop" ⟨[.ref S, .ref z, res], []⟩) R { s with heap := h, toks := tk } := by
  intro k
  induction k with
  | zero =>
    intro i h tk c acc as hk hi hst hi1 hi2 hl1 hl2 hkeep hSS hacc hal hG hIs
    refine codeAny_builtin PySem.F.entry_extend_loop ?_
    rw [Around.under_plainId PySem.F.plain_extend_loop _]
    show wpAny _ A.in1 (pyNext (.ref z) >>= _) _ _ _
    obtain ⟨hTI, _, hcase⟩ := hst
    rcases hcase with ⟨h0', _⟩ | ⟨t, f, ot, hz, ht, t1, t2, t3, t4⟩
    · omega
    · refine wpAny_bind (zipO_end (s := { s with heap := h, toks := tk }) (A := A.in1) hh D hz ht hTI hi1 hl1 (by simp; omega) fun h' he => ?_)
      refine wpAny_pure (hR h' tk acc c as (fun b o h1 h2 h3 h4 h5 e => he b o h2 h4 h5 (hkeep b o h1 h2 h3 h4 h5 e)) (he S _ hS.1 hS.2.2.2.1 hS.2.2.2.2.1 hSS) (by omega) ⟨hG.rise, hG.above, fun j a hj => ?_⟩ hacc)
      obtain ⟨x, y, e1, e2, e3⟩ := hG.pairs j a hj
      have hab := hG.above a (List.mem_of_getElem? hj)
      obtain ⟨q1, q2, q3, q4, q5, q6⟩ := hlt
      exact ⟨x, y, e1, e2, he a _ (hi_ne hab q6) (hi_ne hab (Nat.lt_trans q3 q6)) (hi_ne hab (Nat.lt_trans q4 q6)) e3⟩
  | succ k ih =>
    intro i h tk c acc as hk hi hst hi1 hi2 hl1 hl2 hkeep hSS hacc hal hG hIs
    have hlt' : i < xs.size := by omega
    have hx : xs[i]? = some xs[i] := by simp [hlt']
    have hy : ys[i]? = some (ys[i]'(by omega)) := by simp
    have hsz : acc.size = i := by rw [← Array.length_toList, hacc, List.length_map, hal]
    obtain ⟨q1, q2, q3, q4, q5, q6⟩ := hlt
    refine codeAny_builtin PySem.F.entry_extend_loop ?_
    rw [Around.under_plainId PySem.F.plain_extend_loop _]
    show wpAny _ A.in1 (pyNext (.ref z) >>= _) _ _ _
    have fin : ∀ h' : Heap, ZipSt h' z TI TO i1 i2 S (i + 1) → h'.IsListIter i1 l1 (i + 1) → h'.IsListIter i2 l2 (i + 1) → IsPair h' h.objs.size xs[i] (ys[i]'(by omega)) → h'.objs.size = h.objs.size + 1 →
        (∀ b o, b ≠ z → b ≠ TO → b ≠ i1 → b ≠ i2 → h.get? b = some o → h'.get? b = some o) →
        wpAny (model prog w) A.in1 (Builtin.List.listUpdate (.ref S) (·.push (.ref h.objs.size)) >>= fun _ => again (.builtin "list.extend.loop" ⟨[.ref S, .ref z, res], []⟩))
          (fun fin s' => match fin with | .done f => R (.ok f) s' | .again c' => c'.quiet = true ∧ codeAny (model prog w) A c' R s') (fun e s' => R (.error e) s') { s with heap := h', toks := tk } := by
      intro h' hst' hi1' hi2' ht hz hkp
      have hS' := hkp S _ hS.1 hS.2.2.1 hS.2.2.2.1 hS.2.2.2.2.1 hSS
      have up : ∀ b o, b ≠ S → h'.get? b = some o → (h'.update S (Obj.mapSeq (·.push (Value.ref h.objs.size)))).get? b = some o := fun b o hb e => (Heap.get?_update_other _ _ (Ne.symm hb)).trans e
      have hSl : S < h.objs.size := Heap.lt_size hSS
      have upz : ZipSt (h'.update S (Obj.mapSeq (·.push (Value.ref h.objs.size)))) z TI TO i1 i2 S (i + 1) := by
        obtain ⟨a1, ⟨l, o, a2, a3⟩, a4⟩ := hst'
        refine ⟨up _ _ hS.2.1.symm a1, ⟨l, o, up _ _ hS.2.2.2.1.symm a2, a3⟩, ?_⟩
        rcases a4 with ⟨b1, _⟩ | ⟨t, f, ot, b1, b2, b3, b4, b5, b6⟩
        · omega
        · exact .inr ⟨t, f, ot, up _ _ hS.1.symm b1, up _ _ b6 b2, b3, b4, b5, b6⟩
      show wpAny _ A.in1 (updateSeq S (·.push (Value.ref h.objs.size)) >>= _) _ _ _
      refine wpAny_bind ?_
      refine wpAny_updateSeq hS' rfl (wpAny_pure ⟨plainId_quiet PySem.F.plain_extend_loop _, ih (i + 1) _ tk _ (acc.push (Value.ref h.objs.size)) (as ++ [h.objs.size]) (by omega) hlt' upz
        (hi1'.at fun o e => up _ o hS.2.2.2.1.symm e) (hi2'.at fun o e => up _ o hS.2.2.2.2.1.symm e)
        (hl1.at fun o e => up _ o hS.2.2.2.2.2.1.symm (hkp _ o D.l1z D.l1TO D.l1i1 D.l1i2 e)) (hl2.at fun o e => up _ o hS.2.2.2.2.2.2.symm (hkp _ o D.l2z D.l2TO D.l2i1 D.l2i2 e))
        (fun b o h1 h2 h3 h4 h5 e => up b o h1 (hkp b o h2 h3 h4 h5 (hkeep b o h1 h2 h3 h4 h5 e))) (Heap.get?_update_self _ hS' rfl) (by rw [Array.toList_push, hacc, List.map_append]; rfl) (by rw [List.length_append, hal]; rfl) ⟨?_, ?_, ?_⟩ ?_⟩) (by rw [hsz]; omega) (by show (acc.push (Value.ref h.objs.size)).size ≤ sizeLine + 1; rw [Array.size_push, hsz]; omega)
      · refine List.pairwise_append.mpr ⟨hG.rise, List.pairwise_singleton _ _, fun a ha b hb => ?_⟩
        rw [List.mem_singleton.mp hb]
        obtain ⟨j, hj⟩ := List.mem_iff_getElem?.mp ha
        obtain ⟨_, _, _, _, e⟩ := hG.pairs j a hj
        exact Heap.lt_size e
      · intro a ha
        rcases List.mem_append.mp ha with ha | ha
        · exact hG.above a ha
        · rw [List.mem_singleton.mp ha]; exact hi_lt hIs (Nat.lt_of_le_of_lt (Nat.zero_le _) q5)
      · intro j b hj
        rcases Nat.lt_trichotomy j as.length with h1 | h1 | h1
        · rw [List.getElem?_append_left h1] at hj
          obtain ⟨x, y, e1, e2, e3⟩ := hG.pairs j b hj
          have hb := hG.above b (List.mem_of_getElem? hj)
          exact ⟨x, y, e1, e2, up b _ (hi_ne hb q5) (hkp b _ (hi_ne hb q6) (hi_ne hb (Nat.lt_trans q2 q6)) (hi_ne hb (Nat.lt_trans q3 q6)) (hi_ne hb (Nat.lt_trans q4 q6)) e3)⟩
        · subst h1
          have hb : h.objs.size = b := by simpa using hj
          subst hb
          exact ⟨_, _, by rw [hal]; exact hx, by rw [hal]; exact hy, up _ _ (Nat.ne_of_gt hSl) ht⟩
        · have hnone : (as ++ [h.objs.size])[j]? = none := List.getElem?_eq_none (by rw [List.length_append, List.length_singleton]; omega)
          rw [hnone] at hj; cases hj
      · have e : (h'.update S (Obj.mapSeq (·.push (Value.ref h.objs.size)))).get? h.objs.size = _ := up _ _ (Nat.ne_of_gt hSl) ht
        exact Nat.le_of_lt (Nat.lt_of_le_of_lt hIs (Heap.lt_size e))
    obtain ⟨hTI, _, hcase⟩ := hst
    have gt : ∀ {b : Addr}, b < h0 → h.objs.size ≠ b := fun hb => Nat.ne_of_gt (Nat.lt_of_lt_of_le hb hIs)
    rcases hcase with ⟨e0, hz, a, b, hTO⟩ | ⟨t, f, ot, hz, ht, t1, t2, t3, t4⟩
    · refine wpAny_bind (wpAny_pyNext_zip_item (s := { s with heap := h, toks := tk }) (A := A.in1) D hz hTI hTO hi1 hi2 hl1 hl2 hx hy fun h' hz' hTO' hi1' hi2' ht' hsz' hkp => ?_)
      refine fin h' ⟨hkp _ _ D.TIz D.TITO D.TIi1 D.TIi2 hTI, ⟨_, hi1'⟩, .inr ⟨_, _, _, hz', ht', gt q6, gt (Nat.lt_trans q3 q6), gt (Nat.lt_trans q4 q6), gt q5⟩⟩ hi1' hi2' ht' hsz' hkp
    · refine wpAny_bind (zipO_item (s := { s with heap := h, toks := tk }) (A := A.in1) D hz ht hTI hi1 hi2 hl1 hl2 hx hy fun h' hz' hi1' hi2' ht' hsz' hkp => ?_)
      refine fin h' ⟨hkp _ _ D.TIz D.TIi1 D.TIi2 hTI, ⟨_, hi1'⟩, .inr ⟨t, true, ot, hz', hkp _ _ t1 t2 t3 ht, t1, t2, t3, t4⟩⟩ hi1' hi2' ht' hsz' fun b o h1 h2 h3 h4 e => hkp b o h1 h3 h4 e
end
end RM
end
noncomputable section
open PySem.SeqAt PySem.MeetsSeq
set_option maxRecDepth 100000
namespace RM
section
variable {prog : Program} {w : World} {A : Around} {E : Value → Shared → Prop} {s : Shared}
theorem zip_hint {z : Addr} (hT : s.TypeIs (.ref z) "zip") {Q : Bool → Shared → Prop} (h : ∀ b, Q b s) : wpAny (model prog w) A (Builtin.List.listLengthHint (.ref z)) Q E s := by
  unfold Builtin.List.listLengthHint
  refine wpAny_bind (wpAny_specialOf hT zip_no_len ?_)
  show wpAny _ _ (specialOf (Value.ref z) (Str.ofString "__length_hint__") >>= _) _ _ _
  refine wpAny_bind (wpAny_specialOf hT zip_no_hint ?_)
  exact wpAny_pure (h _)
theorem call_list_zip {z TI TO i1 i2 l1 l2 : Addr} {xs ys : Array Value} {Q : Value → Shared → Prop} (hh : A.handled = none) (D : ZipApart z TI TO i1 i2 l1 l2) (hlt : TI < z ∧ TO < z ∧ i1 < z ∧ i2 < z)
    (hz : IsZip s.heap z TI TO .none) (hTI : IsPair s.heap TI (.ref i1) (.ref i2)) (hTO : IsPair s.heap TO .none .none) (h1 : s.heap.IsListIter i1 l1 0) (h2 : s.heap.IsListIter i2 l2 0) (hl1 : s.heap.IsList l1 xs) (hl2 : s.heap.IsList l2 ys)
    (hxy : xs.size = ys.size) (hpos : 0 < xs.size) (hn : xs.size ≤ sizeLine)
    (hQ : ∀ h' tk acc c as, (∀ b o, b ≠ z → b ≠ TO → b ≠ i1 → b ≠ i2 → s.heap.get? b = some o → h'.get? b = some o) → h'.get? s.heap.objs.size = some (listOf acc c) → as.length = xs.size → ZipG xs ys s.heap.objs.size h' as →
      acc.toList = as.map Value.ref → Q (.ref s.heap.objs.size) { s with heap := h', toks := tk }) :
    wpAny (model prog w) A (call (.type "list") [.ref z]) Q E s := by
  have lt : ∀ {b : Addr} {o : Obj}, s.heap.get? b = some o → b < s.heap.objs.size := fun e => Heap.lt_size e
  have a1 := lt hz
  have a2 := lt hTI
  have a3 := lt hTO
  have a4 : i1 < s.heap.objs.size := let ⟨_, e, _⟩ := h1; lt e
  have a5 : i2 < s.heap.objs.size := let ⟨_, e, _⟩ := h2; lt e
  have a6 : l1 < s.heap.objs.size := let ⟨_, e, _⟩ := hl1; lt e
  have a7 : l2 < s.heap.objs.size := let ⟨_, e, _⟩ := hl2; lt e
  refine callType_codes (Q₁ := fun obj s₁ => obj = .ref s.heap.objs.size ∧ s₁ = { s with heap := s.heap.push { cls := .type "list", data := .seq #[] } }) PySem.F.called_list (PySem.F.typeCall_list_1 _) PySem.F.entry_list_init
    (code_list_new _ ⟨rfl, rfl⟩) fun obj s₁ h₁ => ?_
  obtain ⟨rfl, rfl⟩ := h₁
  have hS : (s.heap.push { cls := .type "list", data := .seq #[] }).get? s.heap.objs.size = some { cls := .type "list", data := .seq #[] } := Heap.get?_push_size _ rfl
  refine ⟨⟨_, hS, rfl⟩, PySem.F.args_list_init_2 _ _, ?_⟩
  have p : ∀ {b : Addr} {o : Obj}, s.heap.get? b = some o → (s.heap.push { cls := .type "list", data := .seq #[] }).get? b = some o := fun e => Heap.get?_push_of_some _ e
  have key : ∀ (h : Heap) (c₁ tk : Nat), (∀ b o, b ≠ s.heap.objs.size → (s.heap.push { cls := .type "list", data := .seq #[] }).get? b = some o → h.get? b = some o) → h.get? s.heap.objs.size = some (listOf #[] c₁) → s.heap.objs.size + 1 ≤ h.objs.size →
      codeAny (model prog w) A.in1 (.builtin "list.extend.loop" ⟨[.ref s.heap.objs.size, .ref z, .none], []⟩) (wants (fun r s₂ => r = .none ∧ Q (.ref s.heap.objs.size) s₂) E) { s with heap := h, toks := tk } := by
    intro h c₁ tk hk hS₁ hsz
    have q : ∀ {b : Addr} {o : Obj}, s.heap.get? b = some o → h.get? b = some o := fun {b o} e => hk b o (Nat.ne_of_lt (lt e)) (p e)
    refine zip_loop (s := s) (h₁ := s.heap) (A := A.in1) (h0 := s.heap.objs.size + 1) (TO := TO) (ys := ys) hh D ⟨Nat.ne_of_gt a1, Nat.ne_of_gt a2, Nat.ne_of_gt a3, Nat.ne_of_gt a4, Nat.ne_of_gt a5, Nat.ne_of_gt a6, Nat.ne_of_gt a7⟩
      ⟨hlt.1, hlt.2.1, hlt.2.2.1, hlt.2.2.2, Nat.lt_succ_self _, Nat.lt_succ_of_lt a1⟩ hxy hpos hn .none (fun h' tk' acc c as hk' hS' hl hG hacc => ?_) xs.size 0 h tk c₁ #[] [] (Nat.sub_zero _) (Nat.zero_le _)
      ⟨q hTI, ⟨l1, let ⟨o, e, r⟩ := h1; ⟨o, q e, r⟩⟩, .inl ⟨rfl, q hz, _, _, q hTO⟩⟩ (let ⟨o, e, r⟩ := h1; ⟨o, q e, r⟩) (let ⟨o, e, r⟩ := h2; ⟨o, q e, r⟩) (let ⟨o, e, r⟩ := hl1; ⟨o, q e, r⟩) (let ⟨o, e, r⟩ := hl2; ⟨o, q e, r⟩)
      (fun b o _ _ _ _ _ e => q e) hS₁ rfl rfl ⟨List.Pairwise.nil, (fun _ ha => nomatch ha), (fun j a hj => by simp at hj)⟩ hsz
    exact ⟨rfl, hQ h' tk' acc c as (fun b o b1 b2 b3 b4 e => hk' b o (Nat.ne_of_lt (lt e)) b1 b2 b3 b4 e) hS' hl hG hacc⟩
  show wpAny _ _ (do let old ← Builtin.List.listItems (.ref s.heap.objs.size); Builtin.List.listUpdate (.ref s.heap.objs.size) (fun _ => #[]); letGo old.toList.reverse; Builtin.List.listExtendWith (.ref s.heap.objs.size) (.ref z) .none) _ _ _
  refine wpAny_bind ?_
  unfold Builtin.List.listItems
  refine wpAny_bind (wpAny_seqItems hS rfl (wpAny_pure ?_))
  show wpAny _ _ (updateSeq s.heap.objs.size (fun _ => #[]) >>= fun _ => letGo (#[] : Array Value).toList.reverse >>= fun _ => Builtin.List.listExtendWith (.ref s.heap.objs.size) (.ref z) .none) _ _ _
  refine wpAny_bind (wpAny_updateSeq hS rfl ?_)
  have hS₂ := Heap.get?_update_self (Obj.mapSeq (fun _ => (#[] : Array Value))) hS rfl
  refine wpAny_bind (wpAny_letGo ?_)
  have oth : ∀ b o, b ≠ s.heap.objs.size → (s.heap.push { cls := .type "list", data := .seq #[] }).get? b = some o → ((s.heap.push { cls := .type "list", data := .seq #[] }).update s.heap.objs.size (Obj.mapSeq (fun _ => (#[] : Array Value)))).get? b = some o :=
    fun b o hb e => (Heap.get?_update_other _ _ (Ne.symm hb)).trans e
  unfold Builtin.List.listExtendWith
  have hz' := oth z _ (Nat.ne_of_lt a1) (p hz)
  have hTz : Shared.TypeIs { s with heap := (s.heap.push { cls := .type "list", data := .seq #[] }).update s.heap.objs.size (Obj.mapSeq (fun _ => (#[] : Array Value))) } (.ref z) "zip" := ⟨_, hz', rfl⟩
  refine wpAny_bind (wpAny_typeOf (T := "zip") hTz ?_)
  have e1 : Builtin.List.listSameRef (.ref s.heap.objs.size) (.ref z) = false := by simp [Builtin.List.listSameRef, Nat.ne_of_gt a1]
  have e2 : (Value.type "zip" == Value.type "list") = false := by decide
  have e3 : (Value.type "zip" == Value.type "tuple") = false := by decide
  simp only [e1, e2, e3, Bool.or_false, Bool.false_eq_true, if_false]
  refine wpAny_bind (wpAny_pyIter_zip hz' ?_)
  have sz : ((s.heap.push { cls := .type "list", data := .seq #[] }).update s.heap.objs.size (Obj.mapSeq (fun _ => (#[] : Array Value)))).objs.size = s.heap.objs.size + 1 := by rw [Heap.size_update, Heap.size_push]
  refine wpAny_bind (wpAny_holding (zip_hint hTz fun b => ?_))
  refine wpAny_ite_split (fun _ => ?_) (fun _ => wpAny_pure ⟨plainId_quiet PySem.F.plain_extend_loop _, key _ _ _ oth hS₂ (Nat.le_of_eq sz.symm)⟩)
  refine wpAny_bind (wpAny_rule ?_)
  refine wpAny_bind ?_
  show wpAny _ _ (updateSeq s.heap.objs.size (·.push .none) >>= fun _ => updateSeq s.heap.objs.size (·.pop)) _ _ _
  refine wpAny_bind (wpAny_updateSeq hS₂ rfl ?_)
  have hS₃ := Heap.get?_update_self (Obj.mapSeq (·.push Value.none)) hS₂ rfl
  refine wpAny_updateSeq (hz := by seq_fits) hS₃ rfl ?_
  have hS₄ := Heap.get?_update_self (Obj.mapSeq (·.pop)) hS₃ rfl
  refine wpAny_pure ⟨plainId_quiet PySem.F.plain_extend_loop _, key _ _ _ (fun b o hb e => ?_) hS₄ ?_⟩
  · exact (Heap.get?_update_other _ _ (Ne.symm hb)).trans ((Heap.get?_update_other _ _ (Ne.symm hb)).trans (oth b o hb e))
  · rw [Heap.size_update, Heap.size_update, sz]; exact Nat.le_refl _
end
section
variable {c : KB} {k : Nat} {sc : Scope} {σ σ' σ₁ σ₂ σ₃ : St} {pl : List PRec} {g g' : G} {s s' : Shared} {env : Env}
theorem tr_list_zip {p' p2 pos zpos : Pos} {e1 e2 : Expr} {xs ys : List PV} {i j : Nat} (hi : vloc sc "list" = some (i, .globalImplicit)) (hg : c.mg "list" = none) (hj : vloc sc "zip" = some (j, .globalImplicit)) (hgz : c.mg "zip" = none)
    (hp : PlainArgs [e1, e2]) (hp' : PlainArgs [.Call (.Name "zip" p2) [e1, e2] [] zpos]) (he : TrArgs c k sc σ [e1, e2] [.list xs, .list ys] σ₁) (hxy : xs.length = ys.length) (hpos : 0 < xs.length) :
    TrE c k sc σ (.Call (.Name "list" p') [.Call (.Name "zip" p2) [e1, e2] [] zpos] [] pos) (.list ((xs.zip ys).map fun p => .tup [p.1, p.2])) σ₁ := by
  intro A env g s Q E L V F hQ
  refine wpAny_Call_NameR (load_builtin V F.gs hi hg (v := .type "list") (by decide +kernel) (by decide +kernel) ?_)
  have hE : starEach [Expr.Call (.Name "zip" p2) [e1, e2] [] zpos] env = [(false, eval (.Call (.Name "zip" p2) [e1, e2] [] zpos) env)] := by have := hp' env; simpa [starEach, evalEach] using this
  rw [hE]
  refine PySem.callWith_type rfl (Calls.evalArgs_plain (Calls.spliced_cons ?_))
  refine type_call (T := "zip") hj hgz (by decide +kernel) (by decide +kernel) hp he L V F fun vs g1 s1 N R => ?_
  cases R with
  | cons r1 R =>
    cases R with
    | cons r2 R =>
      cases R
      obtain ⟨a, its, n, rfl, ea, ra, za⟩ := Sees.list N.sim.gs (.inl r1)
      obtain ⟨b, its', n', rfl, eb, rb, zb⟩ := Sees.list N.sim.gs (.inl r2)
      have ha := ra.length
      have hb := rb.length
      rw [Array.length_toList] at ha hb
      refine call_zip_2 (IsList_of ea) (IsList_of eb) fun h' hz hTI hTO hi1 hi2 hsz hk => Calls.spliced_nil ?_
      have D := zipApart_new (n := s1.heap.objs.size) (Heap.lt_size ea) (Heap.lt_size eb)
      refine call_list_zip (s := { s1 with heap := h' }) L.hd D ⟨Nat.add_lt_add_left (by decide) _, Nat.add_lt_add_left (by decide) _, Nat.lt_add_of_pos_right (by decide), Nat.add_lt_add_left (by decide) _⟩ hz hTI hTO hi1 hi2 ((IsList_of ea).at fun o e => hk _ o e) ((IsList_of eb).at fun o e => hk _ o e) (by omega) (by omega) (by rw [sizeLine_eq] at za ⊢; omega) fun h2 tk acc cc as hk2 hS hl hG hacc => ?_
      dsimp only at hS hG hk2 ⊢
      have up : ∀ b o, s1.heap.get? b = some o → h2.get? b = some o := fun b o e => by
        have hlt : b < s1.heap.objs.size := Heap.lt_size e
        exact hk2 b o (Nat.ne_of_lt (Nat.lt_of_lt_of_le hlt (Nat.le_add_right _ _))) (Nat.ne_of_lt (Nat.lt_of_lt_of_le hlt (Nat.le_add_right _ _))) (Nat.ne_of_lt hlt) (Nat.ne_of_lt (Nat.lt_of_lt_of_le hlt (Nat.le_add_right _ _))) (hk b o e)
      have old : ∀ {b : Addr}, h'.objs.size ≤ b → s1.heap.get? b = none := fun {b} hb => get_none_of_ge (by rw [hsz] at hb; exact Nat.le_trans (Nat.le_add_right _ _) hb)
      let l : List (Addr × Obj) := (h'.objs.size, listOf acc cc) :: (List.range as.length).filterMap fun j => match as[j]?, its[j]?, its'[j]? with | some a, some x, some y => some (a, tupOf #[x, y] 0) | _, _, _ => none
      have hl' : ∀ p ∈ l, s1.heap.get? p.1 = none ∧ h2.get? p.1 = some p.2 := fun p hp => by
        rcases List.mem_cons.mp hp with rfl | hp
        · exact ⟨old (Nat.le_refl _), hS⟩
        · obtain ⟨j, hj, hjp⟩ := List.mem_filterMap.mp hp
          split at hjp
          · rename_i a x y q1 q2 q3
            cases hjp
            obtain ⟨x', y', w1, w2, w3⟩ := hG.pairs j a q1
            rw [q2] at w1; rw [q3] at w2; cases w1; cases w2
            exact ⟨old (Nat.le_of_lt (hG.above a (List.mem_of_getElem? q1))), w3⟩
          · cases hjp
      obtain ⟨F2, le2, fz2⟩ := N.sim.freezes (s' := { s1 with heap := h2, toks := tk }) hl' up rfl rfl
      refine hQ _ _ _ ⟨N.le.trans le2, F2, N.stay.trans (.ext up)⟩ (.list (fz2 _ (List.mem_cons_self ..)) (reps_of ?_ fun j v hj => ?_) ?_)
      · rw [hacc]; simp [hl]; omega
      · rw [hacc, List.getElem?_map] at hj
        obtain ⟨aj, hj1, rfl⟩ := Option.map_eq_some_iff.mp hj
        obtain ⟨x, y, w1, w2, w3⟩ := hG.pairs j aj hj1
        obtain ⟨px, hpx, rx⟩ := ra.getV (i := j) (v := x) (by simpa using w1)
        obtain ⟨py, hpy, ry⟩ := rb.getV (i := j) (v := y) (by simpa using w2)
        refine ⟨.tup [px, py], ?_, ?_⟩
        · have hz : (xs.zip ys)[j]? = some (px, py) := by simp [List.getElem?_zip_eq_some, hpx, hpy]
          rw [List.getElem?_map, hz]; rfl
        · have hm : (aj, tupOf #[x, y] 0) ∈ l := by
            refine List.mem_cons_of_mem _ (List.mem_filterMap.mpr ⟨j, ?_, ?_⟩)
            · rw [List.mem_range]; exact (List.getElem?_eq_some_iff.mp hj1).1
            · rw [hj1, w1, w2]
          exact .tup (fz2 _ hm) (.cons (rx.le le2) (.cons (ry.le le2) .nil)) (by show 2 ≤ sizeLine; rw [sizeLine_eq]; decide)
      · have : acc.size = as.length := by rw [← Array.length_toList, hacc, List.length_map]
        rw [this, hl]; rw [sizeLine_eq] at za ⊢; omega
end
end RM
end
noncomputable section
open PySem.SeqAt PySem.MeetsSeq
set_option maxRecDepth 100000
namespace RM
theorem keys_miss : typeLookup (.type "list") "keys" = pure none := by rw [typeLookup_type, builtinLookup_eq_fast]; kernel_rfl
theorem entry_upd_loop : entryFor table "dict.update.loop" = some Builtin.«dict.update.loop» := entryFor_of_tree (by kernel_rfl)
theorem plain_upd_loop : plainId "dict.update.loop" = true := by decide +kernel
section
variable {prog : Program} {w : World} {A : Around} {E : Value → Shared → Prop} {s : Shared}
theorem list_no_keys {a : Addr} {xs : Array Value} {k : Nat} {Q : Option Value → Shared → Prop} (hx : s.heap.get? a = some (listOf xs k)) (hA : A.handled = none)
    (h : ∀ h' tk, HExt s.heap h' → Q none { s with heap := h', toks := tk }) : wpAny (model prog w) A (getAttr? (.ref a) "keys") Q E s := by
  obtain ⟨hp, g, d, tk, os⟩ := s
  have hT : ∀ tk', (⟨hp, g, d, tk', os⟩ : Shared).TypeIs (.ref a) "list" := fun _ => ⟨_, hx, rfl⟩
  have f1 := sub_AttributeError
  have f3 := F.slot_list_getattribute.lookup
  have f4 := F.slot_list_getattribute.bind (.ref a)
  have f5 := am_list_getattr_none
  unfold getAttr? getAttrBy?
  refine wpAny_bind (wpAny_mkText ?_)
  refine wpAny_bind (wpAny_attempt (Q := fun r s' => wpAny (model prog w) A (match r with | .ok v => pure (some v) | .error e => do if ← isInstance e (.type "AttributeError") then pure none else throw e) Q E s') ?_)
  unfold getAttrBy
  repeat (any_goals (first | assumption | exact hT _ | ((with_reducible show wpAny _ _ (call (Value.builtin "list.__getattribute__") _ _) _ _ _); refine call_meets F.slot_list_getattribute (hT _) am_entry_list_getattribute (F.args_list_getattribute_2 _ _) (meets_getattribute_miss_list a xs k #[] "keys" _ keys_miss (by decide +kernel) (by decide +kernel)) ⟨hx, hA, fun h' tk' e hx' => ?_⟩) | wp_step))
  obtain ⟨t', u', he⟩ := hx'.there
  show wpAny _ _ (getattributeRaised _ _ _ _ _ _ _) _ _ _
  unfold getattributeRaised
  repeat (any_goals (first | assumption | wp_step))
  exact h _ _ hx'.keeps
theorem updloop {d l it : Addr} {xs : Array Value} {n : Nat} {kv : List (Str × Value)} {h0 : Heap} {R : Result → Shared → Prop} (hh : A.handled = none) (hdl : d ≠ l) (hdi : d ≠ it) (hli : l ≠ it) (hl0 : h0.get? l = some (listOf xs n))
    (hx : ∀ (j : Nat) (v : Value), xs[j]? = some v → ∃ a t k x n', v = .ref a ∧ a ≠ d ∧ a ≠ it ∧ h0.get? a = some (tupOf #[.str k t, x] n') ∧ kv[j]? = some (k, x)) (hlen : xs.size = kv.length) (hnd : (kv.map (·.1)).Nodup) (hsz : kv.length ≤ 100000)
    (hR : ∀ h' tk, h'.DictOf (strKind prog w) d kv → (∀ b o, b ≠ d → b ≠ it → h0.get? b = some o → h'.get? b = some o) → R (.ok (.ret .none)) { s with heap := h', toks := tk }) :
    ∀ (m i : Nat) (h : Heap) (tk : Nat) (c : Int) (t : Tok), xs.size - i = m → i ≤ xs.size → h.DictOf (strKind prog w) d (kv.take i) → h.IsListIter it l i → (∀ b o, b ≠ d → b ≠ it → h0.get? b = some o → h.get? b = some o) →
      codeAny (model prog w) A (.builtin "dict.update.loop" ⟨[.ref d, .ref it, .int c t, .none], []⟩) R { s with heap := h, toks := tk } := by
  intro m
  induction m with
  | zero =>
    intro i h tk c t hm hi hD hI hk
    have hin : i = kv.length := by omega
    refine codeAny_builtin entry_upd_loop ?_
    rw [Around.under_plainId plain_upd_loop _]
    show wpAny _ A.in1 (pyNext (.ref it) >>= _) _ _ _
    have hl := hk l _ hdl.symm hli hl0
    refine wpAny_bind (wpAny_pyNext_list_end (s := { s with heap := h, toks := tk }) (A := A.in1) hh hI (IsList_of hl) (by simp; omega) fun h' hs => ?_)
    show wpAny _ _ (Builtin.Dict.addKeywords d [] >>= _) _ _ _
    refine wpAny_bind (wpAny_pure (wpAny_pure (hR h' tk ?_ fun b o h1 h2 e => hs b o h2 (hk b o h1 h2 e))))
    have e : kv.take i = kv := by rw [hin]; simp
    rw [e] at hD
    obtain ⟨o, es, ep, ho, r⟩ := hD
    exact ⟨o, es, ep, hs d o hdi ho, r⟩
  | succ m ih =>
    intro i h tk c t hm hi hD hI hk
    have hlt : i < xs.size := by omega
    have hxi : xs[i]? = some xs[i] := by simp [hlt]
    obtain ⟨a, tt, k, x, n', e1, had, hai, e2, e3⟩ := hx i _ hxi
    refine codeAny_builtin entry_upd_loop ?_
    rw [Around.under_plainId plain_upd_loop _]
    show wpAny _ A.in1 (pyNext (.ref it) >>= _) _ _ _
    have hl := hk l _ hdl.symm hli hl0
    refine wpAny_bind (wpAny_pyNext_list_item (s := { s with heap := h, toks := tk }) (A := A.in1) hI (IsList_of hl) hxi fun h' hI' hs => ?_)
    rw [e1]
    have ht : h'.get? a = some (tupOf #[.str k tt, x] n') := (hs.2 a hai).trans (hk a _ had hai e2)
    refine wpAny_bind (wpAny_holding ?_)
    have hpair : ∀ {Q : List Value → Shared → Prop} {E : Value → Shared → Prop}, Q [.str k tt, x] { s with heap := h', toks := tk } → wpAny (model prog w) A.in1 (Builtin.Dict.pairItems (.ref a)) Q E { s with heap := h', toks := tk } := by
      intro Q E hq
      unfold Builtin.Dict.pairItems
      refine wpAny_bind (wpAny_typeOf (T := "tuple") ⟨_, ht, rfl⟩ ?_)
      refine wpAny_ite_split (fun _ => ?_) (fun hab => absurd (by decide) hab)
      refine wpAny_bind (wpAny_seqItems ht rfl (wpAny_pure hq))
    refine wpAny_bind (wpAny_tryCatch (hpair ?_))
    dsimp only
    have hD' : h'.DictOf (strKind prog w) d (kv.take i) := hD.sameBut hs hdi
    refine wpAny_holding (wpAny_dictSet_pairs (k := k) (strKind_is _ _ _ _) hD' (fun h2 hD2 hs2 => ?_) (by rw [sizeLine_eq, List.length_take]; omega))
    have hst : stored (kv.take i) k x = kv.take (i + 1) := by
      have hlt' : i < kv.length := by omega
      have hki : kv[i] = (k, x) := by
        have := List.getElem?_eq_getElem hlt'; rw [this] at e3; exact Option.some.inj e3
      have hnot : ¬ ((kv.take i).any fun p => decide (p.1 = k)) = true := by
        rw [List.any_eq_true]
        rintro ⟨p, hp, hpk⟩
        have hpk' : p.1 = k := of_decide_eq_true hpk
        obtain ⟨j, hj⟩ := List.getElem?_of_mem hp
        have hji : j < i := by
          have := (List.getElem?_eq_some_iff.mp hj).1
          rw [List.length_take] at this; omega
        rw [List.getElem?_take_of_lt hji] at hj
        have h1 : (kv.map (·.1))[j]? = some k := by rw [List.getElem?_map, hj]; simp [hpk']
        have h2 : (kv.map (·.1))[i]? = some k := by rw [List.getElem?_map, e3]; rfl
        have hjl : j < (kv.map (·.1)).length := (List.getElem?_eq_some_iff.mp h1).1
        have := (List.getElem?_inj hjl hnd).mp (h1.trans h2.symm)
        omega
      rw [stored, if_neg hnot, List.take_add_one, e3]; rfl
    rw [hst] at hD2
    refine wpAny_pure ⟨plainId_quiet plain_upd_loop _, ih (i + 1) h2 (tk + 1) _ _ (by omega) hlt hD2 ?_ fun b o h1 h3 e => (hs2.2 b h1).trans ((hs.2 b h3).trans (hk b o h1 h3 e))⟩
    obtain ⟨oi, hoi, r⟩ := hI'
    exact ⟨oi, (hs2.2 it hdi.symm).trans hoi, r⟩
end
end RM
end
noncomputable section
open PySem.SeqAt PySem.MeetsSeq
set_option maxRecDepth 100000
namespace RM
section
variable {prog : Program} {w : World} {A : Around} {E : Value → Shared → Prop} {s : Shared}
theorem call_dict_pairs {l : Addr} {xs : Array Value} {n : Nat} {kv : List (Str × Value)} {Q : Value → Shared → Prop} (hh : A.handled = none) (hl : s.heap.get? l = some (listOf xs n))
    (hx : ∀ (j : Nat) (v : Value), xs[j]? = some v → ∃ a t k x n', v = .ref a ∧ s.heap.get? a = some (tupOf #[.str k t, x] n') ∧ kv[j]? = some (k, x)) (hlen : xs.size = kv.length) (hnd : (kv.map (·.1)).Nodup) (hsz : kv.length ≤ 100000)
    (hQ : ∀ h' tk, h'.DictOf (strKind prog w) s.heap.objs.size kv → HExt s.heap h' → Q (.ref s.heap.objs.size) { s with heap := h', toks := tk }) :
    wpAny (model prog w) A (call (.type "dict") [.ref l]) Q E s := by
  refine callType_codes (Q₁ := fun obj s₁ => obj = .ref s.heap.objs.size ∧ s₁ = { s with heap := s.heap.push { cls := .type "dict", data := .dict #[] } }) PySem.F.kt_called_dict (PySem.F.kt_typeCall_dict_1 _) PySem.F.entry_dict_init (kt_code_dict_new _ ⟨rfl, rfl⟩) ?_
  rintro obj s₁ ⟨rfl, rfl⟩
  have hnew : (s.heap.push { cls := .type "dict", data := .dict #[] }).DictOf (strKind prog w) s.heap.objs.size [] := Heap.DictOf.new s.heap
  refine ⟨hnew.typeIs, PySem.F.args_dict_init_2 _ _, ?_⟩
  unfold Builtin.«dict.__init__»
  refine wpAny_bind ?_
  unfold Builtin.Dict.selfAndRest
  refine wpAny_bind (wpAny_notOrdered_dict hnew.typeIs ?_)
  show wpAny _ _ (pure (s.heap.objs.size, [Value.ref l])) _ _ _
  refine wpAny_pure ?_
  show wpAny _ _ (Builtin.Dict.updateFrom "dict.__init__" s.heap.objs.size (.ref l) [] .none) _ _ _
  unfold Builtin.Dict.updateFrom
  have hl1 : (s.heap.push { cls := .type "dict", data := .dict #[] }).get? l = some (listOf xs n) := Heap.get?_push_of_some _ hl
  refine wpAny_bind (wpAny_typeOf (T := "list") ⟨_, hl1, rfl⟩ ?_)
  rw [if_pos (by decide)]
  refine wpAny_bind (list_no_keys hl1 hh fun h1 tk1 K1 => ?_)
  rw [if_pos (by rfl)]
  refine wpAny_bind (wpAny_rule ?_)
  have hl2 := K1 _ _ hl1
  refine wpAny_bind (wpAny_pyIter_list (IsList_of hl2) ?_)
  have up : ∀ b o, s.heap.get? b = some o → (h1.push { cls := .type "list_iterator", data := .fields #[.ref l, .int 0 0] }).get? b = some o := fun b o e => Heap.get?_push_of_some _ (K1 _ _ (Heap.get?_push_of_some _ e))
  have nd : l ≠ s.heap.objs.size := Nat.ne_of_lt (Heap.lt_size hl)
  have hd1 := K1 s.heap.objs.size { cls := .type "dict", data := .dict #[] } (Heap.get?_push_size _ rfl)
  have hdlt : s.heap.objs.size < h1.objs.size := Heap.lt_size hd1
  refine wpAny_pure ⟨plainId_quiet plain_upd_loop _, ?_⟩
  refine updloop (s := s) (A := A.in1) (h0 := s.heap) (l := l) (kv := kv) (xs := xs) (n := n) hh nd.symm (Nat.ne_of_lt hdlt) (Nat.ne_of_lt (Nat.lt_trans (Heap.lt_size hl) hdlt)) hl (fun j v hj => ?_) hlen hnd hsz (fun h' tk hD K => ⟨rfl, hQ h' tk hD fun b o e => K b o (Nat.ne_of_lt (Heap.lt_size e)) (Nat.ne_of_lt (Nat.lt_trans (Heap.lt_size e) hdlt)) e⟩) xs.size 0 _ tk1 0 0 (Nat.sub_zero _) (Nat.zero_le _) ?_ ⟨_, Heap.get?_push_size _ rfl, rfl, rfl⟩ fun b o _ _ e => up b o e
  · obtain ⟨a, t, k, x, n', e1, e2, e3⟩ := hx j v hj
    exact ⟨a, t, k, x, n', e1, Nat.ne_of_lt (Heap.lt_size e2), Nat.ne_of_lt (Nat.lt_trans (Heap.lt_size e2) hdlt), e2, e3⟩
  · obtain ⟨o, es, ep, q1, r⟩ := hnew
    exact ⟨o, es, ep, Heap.get?_push_of_some _ (K1 _ _ q1), by simpa using r⟩
theorem repD_of_dictOf {g : G} : ∀ {kv : List (Str × Value)} {es : List DictEntry} {kvs : List (Str × PV)}, PySem.Pairs (strKind prog w) es kv → (∀ e ∈ es, ∃ k, (strKind prog w).is k e.key = true ∧ e.hash = (strKind prog w).hash k) → kv.map (·.1) = kvs.map (·.1) → Reps w g (kv.map (·.2)) (kvs.map (·.2)) → RepD w g es kvs
  | [], _, kvs, .nil, _, hk, hv => by
    have : kvs = [] := by cases kvs <;> simp_all
    subst this; exact .nil
  | (k, v) :: kv, _, [], .cons _ _ _, _, hk, hv => by simp at hk
  | (k, v) :: kv, e :: es, (k', p) :: kvs, .cons a1 a2 a3, hK, hk, hv => by
    simp only [List.map_cons, List.cons.injEq] at hk
    obtain ⟨rfl, hk⟩ := hk
    cases hv with
    | cons r rs =>
      obtain ⟨t, ht⟩ := Value.isStrOf_shape (a1 : Value.isStrOf k e.key = true)
      obtain ⟨k2, b1, b2⟩ := hK e (by simp)
      have : k2 = k := by
        obtain ⟨t2, ht2⟩ := Value.isStrOf_shape (b1 : Value.isStrOf k2 e.key = true)
        rw [ht] at ht2; cases ht2; rfl
      subst this
      obtain ⟨eh, ek, ev⟩ := e
      simp only at ht b2 a2
      subst ht; subst b2
      have hv' : ev = v := a2
      subst hv'
      exact .cons r (repD_of_dictOf a3 (fun e he => hK e (by simp [he])) hk rs)
end
section
variable {c : KB} {k : Nat} {sc : Scope} {σ σ' σ₁ σ₂ σ₃ : St} {pl : List PRec} {g g' : G} {s s' : Shared} {env : Env}
theorem dictOf_obj {h : Heap} {d : Addr} {kv : List (Str × Value)} {kvs : List (Str × PV)} (hD : h.DictOf (strKind c.prog c.w) d kv) (hk : kv.map (·.1) = kvs.map (·.1)) (hv : Reps c.w g (kv.map (·.2)) (kvs.map (·.2))) : ∃ es n, h.get? d = some (dictOf es n) ∧ RepD c.w g es kvs := by
  obtain ⟨o, es, ep, q1, q2, q3, q4, q5, q6⟩ := hD
  refine ⟨es.toList, ep, ?_, repD_of_dictOf (prog := c.prog) q5 (fun e he => q4 e (by simpa using he)) hk hv⟩
  rw [q1]
  obtain ⟨o1, o2, o3, o4⟩ := o
  obtain ⟨w1, w2, w3⟩ := q2
  simp only at w1 w2 w3 q3
  subst w1; subst w2; subst w3; subst q3
  simp
theorem tr_dict {p' pos : Pos} {e : Expr} {kvs : List (Str × PV)} {xs : List PV} {i : Nat} (hi : vloc sc "dict" = some (i, .globalImplicit)) (hg : c.mg "dict" = none) (hp : PlainArgs [e]) (he : TrE c k sc σ e (.list xs) σ₁) (hxs : xs = kvs.map fun p => .tup [.str p.1, p.2]) (nd : (kvs.map (·.1)).Nodup) (hsz : kvs.length ≤ 100000) :
    TrN c k sc σ (.Call (.Name "dict" p') [e] [] pos) (.dct kvs) σ₁ := by
  subst hxs
  intro A env g s Q E L V F hQ
  refine type_call (T := "dict") hi hg (by decide +kernel) (by decide +kernel) hp (args1 hp he) L V F fun vs g' s' N R => ?_
  cases R with
  | cons rv R =>
    cases R
    obtain ⟨l, its, n, rfl, el, r, sz⟩ := Sees.list N.sim.gs (.inl rv)
    have hlen := r.length
    rw [Array.length_toList, List.length_map] at hlen
    have key : ∀ (its : List Value) (kvs : List (Str × PV)), Reps c.w g' its (kvs.map fun p => .tup [.str p.1, p.2]) → ∃ kv : List (Str × Value), kv.map (·.1) = kvs.map (·.1) ∧ Reps c.w g' (kv.map (·.2)) (kvs.map (·.2)) ∧
        ∀ (j : Nat) (v : Value), its[j]? = some v → ∃ a t k x n', v = .ref a ∧ s'.heap.get? a = some (tupOf #[.str k t, x] n') ∧ kv[j]? = some (k, x) := by
      intro its
      induction its with
      | nil => intro kvs r; cases kvs with
        | nil => exact ⟨[], rfl, .nil, fun j v h => by simp at h⟩
        | cons p kvs => cases r
      | cons v its ih => intro kvs r; cases kvs with
        | nil => cases r
        | cons p kvs =>
          cases r with
          | cons r0 rs =>
            obtain ⟨kv, h1, h2, h3⟩ := ih kvs rs
            cases r0 with
            | tup et rt zt =>
              rename_i at' tits tn
              cases htl : tits.toList with
              | nil => rw [htl] at rt; cases rt
              | cons v1 l1 =>
                rw [htl] at rt
                cases rt with
                | cons q1 q2 =>
                  cases q2 with
                  | cons q3 q4 =>
                    cases q4
                    rename_i x1
                    cases q1 with
                    | str _ tk =>
                      have htits : tits = #[.str p.1 tk, x1] := by
                        apply Array.ext'; rw [htl]
                      subst htits
                      refine ⟨(p.1, x1) :: kv, by simp [h1], .cons q3 h2, fun j v hj => ?_⟩
                      cases j with
                      | zero => simp at hj; subst hj; exact ⟨_, tk, p.1, x1, tn, rfl, N.sim.gs.fz _ _ et, rfl⟩
                      | succ j => exact h3 j v (by simpa using hj)
    obtain ⟨kv, h1, h2, h3⟩ := key its.toList kvs r
    have hl1 : kv.length = kvs.length := by have := congrArg List.length h1; simpa using this
    refine call_dict_pairs L.hd el (fun j v hj => h3 j v (by simpa using hj)) (by omega) (by rw [h1]; exact nd) (by omega) fun h' tk hD K => ?_
    obtain ⟨es, ne, e1, e2⟩ := dictOf_obj hD h1 h2
    refine hQ _ g' { s' with toks := tk } _ ⟨N.le, N.sim.toks tk, N.stay⟩ K (push_none _) rfl rfl ⟨es, ne, e1, e2, nd, ?_⟩
    have := e2.length; omega
theorem tr_list_items {p' apos pos cpos : Pos} {o : Expr} {kvs : List (Str × PV)} {i : Nat} (hi : vloc sc "list" = some (i, .globalImplicit)) (hg : c.mg "list" = none) (ho : TrE c k sc σ o (.dict kvs) σ₁)
    (hb : ∀ env, attributeBase o "items" env (eval o env) = eval o env) (hl : (apos.endLine == cpos.line) = true) (hp : PlainArgs [.Call (.Attribute o "items" apos) [] [] cpos]) :
    TrE c k sc σ (.Call (.Name "list" p') [.Call (.Attribute o "items" apos) [] [] cpos] [] pos) (.list (kvs.map fun p => .tup [.str p.1, p.2])) σ₁ := by
  intro A env g s Q E L V F hQ
  refine wpAny_Call_NameR (load_builtin V F.gs hi hg (v := .type "list") (by decide +kernel) (by decide +kernel) ?_)
  have hE : starEach [Expr.Call (.Attribute o "items" apos) [] [] cpos] env = [(false, eval (.Call (.Attribute o "items" apos) [] [] cpos) env)] := by have := hp env; simpa [starEach, evalEach] using this
  rw [hE]
  refine PySem.callWith_type rfl (Calls.evalArgs_plain (Calls.spliced_cons ?_))
  refine call_attr hb (fun _ => rfl) (by simp) hl (ho A env g s _ E L V F fun v g1 s1 N1 rv pl0 => ?_)
  cases rv with
  | dict lo ef r nd sz =>
    rename_i d es n
    have e1 := N1.sim.gs.fz _ _ ef
    obtain ⟨kv2, hat, hk, hv⟩ := dictAt_repV (c := c) e1 r nd
    have hlen : kv2.length = kvs.length := by have := congrArg List.length hk; simpa using this
    have hl2 := r.length
    refine getMethod_builtin (T := "dict") ⟨_, e1, rfl⟩ PySem.F.plainAttrs_dict PySem.F.slot_dict_items PySem.F.type_dict_items (fun a' q => by cases q; exact ⟨_, e1, rfl⟩) ?_
    refine Calls.callWith_builtin rfl (evalArgs_tr (fun _ => rfl) tra_nil L V N1.sim fun vs g' s' N R => ?_)
    cases R
    have hat' : s'.heap.DictAt (strKind c.prog c.w) d kv2 n := by
      obtain ⟨o1, es1, q1, q2, q3, q4, q5, q6⟩ := hat
      rw [e1] at q1
      have e2 := N.sim.gs.fz _ _ (N.le.fz _ _ ef)
      cases q1
      exact ⟨_, _, e2, q2, q3, q4, q5, q6⟩
    refine call_meetsIn PySem.F.slot_dict_items ⟨_, N.sim.gs.fz _ _ (N.le.fz _ _ ef), rfl⟩ PySem.F.entry_dict_items (PySem.F.args_dict_items_1 _) (meets_dict_items (strKind c.prog c.w) d lo) ⟨⟨kv2, hat'.dictOf⟩, Calls.spliced_nil ?_⟩
    have F3 := N.sim.ext (s' := { s' with heap := s'.heap.push { cls := .type "dict_items", data := .fields #[.ref d] } }) (push_ext _ _) rfl rfl
    refine kdx_call (knd := strKind c.prog c.w) (d := d) (kvs := kv2) (ep := n) L.hd ⟨_, Heap.get?_push_size _ rfl, rfl, rfl⟩ (hat'.push _) (by rw [hlen, ← hl2, sizeLine_eq]; omega) fun h' tk acc cc as K hget hal hG hacc => ?_
    dsimp only at hget hG K ⊢
    generalize hh1 : s'.heap.push { cls := .type "dict_items", data := .fields #[.ref d] } = h1 at *
    have old : ∀ {b : Addr}, h1.objs.size ≤ b → h1.get? b = none := fun {b} hb => get_none_of_ge hb
    let l : List (Addr × Obj) := (h1.objs.size, listOf acc cc) :: (List.range as.length).filterMap fun j => match as[j]? with | some a => (match h'.get? a with | some o => some (a, o) | none => none) | none => none
    have hl' : ∀ p ∈ l, h1.get? p.1 = none ∧ h'.get? p.1 = some p.2 := fun p hp => by
      rcases List.mem_cons.mp hp with rfl | hp
      · exact ⟨old (Nat.le_refl _), hget⟩
      · obtain ⟨j, hj, hjp⟩ := List.mem_filterMap.mp hp
        split at hjp
        · rename_i a q1
          split at hjp
          · rename_i o q2
            cases hjp
            exact ⟨old (Nat.le_of_lt (hG.above a (List.mem_of_getElem? q1))), q2⟩
          · cases hjp
        · cases hjp
    obtain ⟨F2, le2, fz2⟩ := F3.freezes (s' := { s' with heap := h', toks := tk }) hl' K rfl rfl
    refine hQ _ _ _ ⟨(N1.le.trans N.le).trans le2, F2, (N1.stay.trans N.stay).trans (.ext fun b o e => K b o (hh1 ▸ push_ext _ _ b o e))⟩ (.list (fz2 _ (List.mem_cons_self ..)) (reps_of ?_ fun j v hj => ?_) ?_)
    · rw [hacc]; simp [hal, hlen]
    · rw [hacc, List.getElem?_map] at hj
      obtain ⟨aj, hj1, rfl⟩ := Option.map_eq_some_iff.mp hj
      obtain ⟨key, ky, x, w1, w2, w3⟩ := hG.pairs j aj hj1
      obtain ⟨t, rfl⟩ := Value.isStrOf_shape w2
      have hk3 : (kvs.map (·.1))[j]? = some ky := by rw [← hk]; simp [w1]
      obtain ⟨px, hpx, rx⟩ := hv.getV (i := j) (v := x) (by simp [w1])
      refine ⟨.tup [.str ky, px], ?_, ?_⟩
      · rw [List.getElem?_map] at hk3 hpx ⊢
        cases q : kvs[j]? with
        | none => rw [q] at hk3; cases hk3
        | some p => rw [q] at hk3 hpx; simp at hk3 hpx; simp [hk3, hpx]
      · have hm : (aj, tupOf #[.str ky t, x] 0) ∈ l := by
          refine List.mem_cons_of_mem _ (List.mem_filterMap.mpr ⟨j, ?_, ?_⟩)
          · rw [List.mem_range]; exact (List.getElem?_eq_some_iff.mp hj1).1
          · rw [hj1]; dsimp only; rw [w3]
        exact .tup (fz2 _ hm) (.cons (.str _ _) (.cons ((rx.le N.le).le le2) .nil)) (by show 2 ≤ sizeLine; rw [sizeLine_eq]; decide)
    · have : acc.size = as.length := by rw [← Array.length_toList, hacc, List.length_map]
      rw [this, hal, hlen, ← hl2, sizeLine_eq]; omega
end
end RM
end
noncomputable section
open PySem.SeqAt PySem.MeetsSeq
set_option maxRecDepth 100000
namespace RM
section
variable {prog : Program} {w : World} {A : Around} {E : Value → Shared → Prop} {s : Shared}
theorem sliceApplied_rev2 {sl : Addr} {u : Tok} {Q : Int × Int × Nat → Shared → Prop} (hs : s.heap.IsSliceOf sl .none .none (.int (-1) u)) (h : Q (1, -1, 2) s) :
    wpAny (model prog w) A (Builtin.Slice.sliceApplied (.ref sl) (pure (2 : Int))) Q E s := by
  obtain ⟨os, hos, hcs, hds⟩ := id hs
  unfold Builtin.Slice.sliceApplied Builtin.Slice.sliceFields
  refine wpAny_bind (wpAny_bind (wpAny_field hos hds (x := .none) rfl (wpAny_bind (wpAny_field hos hds (x := .none) rfl (wpAny_bind (wpAny_field hos hds (x := .int (-1) u) rfl (wpAny_pure ?_)))))))
  refine wpAny_bind (slicePart_int ?_)
  show wpAny _ _ (if ((-1 : Int) == 0) = true then _ else _) _ _ s
  rw [if_neg (by decide)]
  refine wpAny_bind (slicePart_none (wpAny_bind (slicePart_none (wpAny_bind (wpAny_pure ?_)))))
  show wpAny _ _ (pure ((1 : Int), (-1 : Int), 2)) _ _ s
  exact wpAny_pure h
theorem getItem_tuple_rev2 {t sl : Addr} {x y : Value} {n : Nat} {u : Tok} {Q : Value → Shared → Prop} (ht : s.heap.get? t = some (tupOf #[x, y] n)) (hs : s.heap.IsSliceOf sl .none .none (.int (-1) u))
    (h : Q (.ref s.heap.objs.size) { s with heap := s.heap.push { cls := .type "tuple", data := .seq #[y, x] } }) : wpAny (model prog w) A (getItem (.ref t) (.ref sl)) Q E s := by
  obtain ⟨os, hos, hcs, hds⟩ := id hs
  have hTs : s.TypeIs (.ref sl) "slice" := ⟨os, hos, hcs⟩
  have htt : IsTup s.heap t #[x, y] := ⟨_, ht, rfl, n, rfl⟩
  unfold getItem
  try with_reducible refine wpAny_holding ?_
  first | refine wpAny_bind (wpAny_pure ?_) | skip
  refine wpAny_bind (wpAny_sequenceKey htt.typeIs (by decide) ?_)
  refine wpAny_bind (wpAny_callSpecial?_slot (name := Str.ofString "__getitem__") htt.typeIs slot_tuple_getitem
    (wpAny_call_entry slot_tuple_getitem htt.typeIs entry_tuple_getitem ?_ (args_tuple_getitem _ _)))
  show wpAny _ _ (Builtin.Tuple.tupleItemsOf (.ref t) >>= _) _ _ s
  refine wpAny_bind (tupleItemsOf_ htt ?_)
  refine wpAny_bind (wpAny_typeOf hTs ?_)
  rw [if_pos (by decide)]
  refine wpAny_bind (sliceApplied_rev2 hs ?_)
  show wpAny _ _ (if ((1 : Int) == 0 && (-1 : Int) == 1 && (2 : Nat) == 2) = true then _ else _) _ _ s
  rw [if_neg (by decide)]
  have hsz : sizeOk (.seq (#[y, x] : Array Value)) := by show 2 ≤ sizeLine; rw [sizeLine_eq]; decide
  first
    | exact wpAny_bind (m := Builtin.Tuple.tupleExact _) (wpAny_newObj_type (wpAny_pure ⟨_, rfl, wpAny_pure h⟩) hsz)
    | exact wpAny_bind (m := Builtin.Tuple.tupleExact _) (wpAny_newObj_type (wpAny_bind (wpAny_pure (wpAny_pure ⟨_, rfl, wpAny_pure h⟩))) hsz)
    | exact wpAny_bind (wpAny_bind (m := Builtin.Tuple.tupleExact _) (wpAny_newObj_type (wpAny_pure (wpAny_pure ⟨_, rfl, wpAny_pure h⟩)) hsz))
    | exact wpAny_bind (wpAny_bind (m := Builtin.Tuple.tupleExact _) (wpAny_newObj_type (wpAny_pure ⟨_, rfl, wpAny_pure h⟩) hsz))
end
section
variable {c : KB} {k : Nat} {sc : Scope} {σ σ' σ₁ σ₂ σ₃ : St} {pl : List PRec} {g g' : G} {s s' : Shared} {env : Env}
theorem tr_tup_rev {o e : Expr} {p pos : Pos} {x y : PV} (ho : TrE c k sc σ o (.tup [x, y]) σ₁) (he : TrE c k sc σ₁ e (.int (-1)) σ₂) : TrE c k sc σ (.Subscript o (.Slice none none (some e) p) pos) (.tup [y, x]) σ₂ := by
  intro A env g s Q E L V F hQ
  refine Subscript_ (ho A env g s _ E L V F fun v g' s' N rv => ?_)
  refine wpAny_Slice ?_
  rw [evalPart_none]
  refine wpAny_pure ?_
  refine wpAny_pure ?_
  refine he A env g' s' _ E L V N.sim fun ve g2 s2 N2 re => ?_
  obtain ⟨u, rfl⟩ := re.int_inv
  cases rv with
  | tup et rt zt =>
    rename_i t its n
    cases htl : its.toList with
    | nil => rw [htl] at rt; cases rt
    | cons v1 l1 =>
      rw [htl] at rt
      cases rt with
      | cons q1 q2 =>
        cases q2 with
        | cons q3 q4 =>
          cases q4
          rename_i v2
          have hits : its = #[v1, v2] := by apply Array.ext'; rw [htl]
          subst hits
          have e2 := N2.sim.gs.fz _ _ (N2.le.fz _ _ et)
          have e3 := push_ext s2.heap { cls := .type "slice", data := .fields #[.none, .none, .int (-1) u] } _ _ e2
          refine tail_any (T := "tuple") (IsTuple_of e3).typeIs slot_tuple_getitem.lookup (getItem_tuple_rev2 e3 (Heap.IsSliceOf.new ..) ?_) rfl
          have K : HExt s2.heap ((s2.heap.push { cls := .type "slice", data := .fields #[.none, .none, .int (-1) u] }).push { cls := .type "tuple", data := .seq #[v2, v1] }) := fun b o e => push_ext _ _ _ _ (push_ext _ _ _ _ e)
          have F2 := N2.sim.ext (s' := { s2 with heap := s2.heap.push { cls := .type "slice", data := .fields #[.none, .none, .int (-1) u] } }) (push_ext _ _) rfl rfl
          obtain ⟨F3, l3⟩ := F2.freeze (s' := { s2 with heap := (s2.heap.push { cls := .type "slice", data := .fields #[.none, .none, .int (-1) u] }).push { cls := .type "tuple", data := .seq #[v2, v1] } }) (push_none _) (push_ext _ _) (Heap.get?_push_size _ rfl) rfl rfl
          exact hQ _ _ _ ⟨(N.le.trans N2.le).trans l3, F3, (N.stay.trans N2.stay).trans (.ext K)⟩ (.tup (G.addFz_self ..) (.cons ((q3.le N2.le).le l3) (.cons ((q1.le N2.le).le l3) .nil)) (by show 2 ≤ sizeLine; rw [sizeLine_eq]; decide))
theorem tr_str_upto {o e : Expr} {p pos : Pos} {x y : Str} {n : Int} (ho : TrE c k sc σ o (.str x) σ₁) (he : TrE c k sc σ₁ e (.int n) σ₂) (h : ∀ t u, sliceMade x t none (some (n, u)) none = .val (.str y t) ∨ (sliceMade x t none (some (n, u)) none = .str y ∧ y.length ≤ 1000)) :
    TrE c k sc σ (.Subscript o (.Slice none (some e) none p) pos) (.str y) σ₂ := by
  intro A env g s Q E L V F hQ
  refine Subscript_ (ho A env g s _ E L V F fun v g' s' N rv => ?_)
  refine wpAny_Slice ?_
  rw [evalPart_none]
  refine wpAny_pure ?_
  refine he A env g' s' _ E L V N.sim fun ve g2 s2 N2 re => ?_
  refine wpAny_pure ?_
  obtain ⟨u, rfl⟩ := re.int_inv
  cases rv with
  | str _ t =>
    have F2 := N2.sim.ext (s' := { s2 with heap := s2.heap.push { cls := .type "slice", data := .fields #[.none, .int n u, .none] } }) (push_ext _ _) rfl rfl
    have st := (N.stay.trans N2.stay).trans (.ext (push_ext s2.heap { cls := .type "slice", data := .fields #[.none, .int n u, .none] }))
    refine tail_any (T := "str") (typeIs_str _ x t) PySem.F.slot_str_getitem.lookup (wpAny_getItem_str_slice (l := none) (u := some (n, u)) (st := none) ⟨_, Heap.get?_push_size _ rfl, rfl, rfl⟩ rfl ?_) rfl
    rcases h t u with h | ⟨h, hl⟩
    · rw [h]; exact hQ _ g2 _ ⟨N.le.trans N2.le, F2, st⟩ (.str _ _)
    · rw [h]; exact ⟨by rw [sizeLine_eq]; omega, hQ _ g2 _ ⟨N.le.trans N2.le, F2.toks _, st⟩ (.str _ _)⟩
theorem tr_list_str {p' pos : Pos} {e : Expr} {x : Str} {i : Nat} (hi : vloc sc "list" = some (i, .globalImplicit)) (hg : c.mg "list" = none) (hp : PlainArgs [e]) (he : TrE c k sc σ e (.str x) σ₁) (hx : x.cps.size ≤ 1000) :
    TrN c k sc σ (.Call (.Name "list" p') [e] [] pos) (.lst (x.cps.toList.map fun ch => .str ⟨#[ch]⟩)) σ₁ := by
  intro A env g s Q E L V F hQ
  refine type_call (T := "list") hi hg (by decide +kernel) (by decide +kernel) hp (args1 hp he) L V F fun vs g' s' N R => ?_
  cases R with
  | cons rv R =>
    cases R
    cases rv with
    | str _ t =>
      refine call_list_str L.hd x t (fun h' tk acc' c' K hget hacc => ?_) (by rw [sizeLine_eq]; omega)
      refine hQ _ g' { s' with toks := tk } _ ⟨N.le, N.sim.toks tk, N.stay⟩ K (push_none _) rfl rfl ⟨acc', c', hget, reps_of ?_ fun j v hj => ?_, by rw [hacc.1, sizeLine_eq]; omega⟩
      · rw [Array.length_toList, hacc.1]; simp
      · obtain ⟨ch, u, h1, rfl⟩ := hacc.2 j v (by simpa using hj)
        refine ⟨.str ⟨#[ch]⟩, ?_, .str _ _⟩
        rw [List.getElem?_map, Array.getElem?_toList, h1]; rfl
theorem tr_divmod {p' pos : Pos} {e1 e2 : Expr} {x y : Int} {i : Nat} (hi : vloc sc "divmod" = some (i, .globalImplicit)) (hg : c.mg "divmod" = none) (hp : PlainArgs [e1, e2]) (he : TrArgs c k sc σ [e1, e2] [.int x, .int y] σ₁) (hy : y ≠ 0) (hy2 : y.natAbs < 1000) :
    TrE c k sc σ (.Call (.Name "divmod" p') [e1, e2] [] pos) (.tup [.int (x.fdiv y), .int (x.fmod y)]) σ₁ := by
  intro A env g s Q E L V F hQ
  refine builtin_call (id := "divmod") hi hg (by decide +kernel) (by decide +kernel) hp he L V F fun vs g' s' N R => ?_
  cases R with
  | cons r1 R =>
    cases R with
    | cons r2 R =>
      cases R
      obtain ⟨t, rfl⟩ := r1.int_inv
      obtain ⟨u, rfl⟩ := r2.int_inv
      refine divmod_int hy ?_ (Or.inl (PyProof.noPylong_small (by omega)))
      obtain ⟨F3, l3⟩ := (N.sim.toks (s'.toks + 1 + 1)).freeze (s' := { s' with toks := s'.toks + 1 + 1, heap := s'.heap.push { cls := .type "tuple", data := .seq #[.int (x.fdiv y) s'.toks, .int (x.fmod y) (s'.toks + 1)] } }) (push_none _) (push_ext _ _) (Heap.get?_push_size _ rfl) rfl rfl
      exact hQ _ _ _ ⟨N.le.trans l3, F3, N.stay.trans (.ext (push_ext _ _))⟩ (.tup (G.addFz_self ..) (.cons (.int _ _) (.cons (.int _ _) .nil)) (by show 2 ≤ sizeLine; rw [sizeLine_eq]; decide))
theorem tr_set_item {x : Str} {xp tpos pos : Pos} {ix e : Expr} {i : Nat} {kd : NameKind} {kvs : List (Str × PV)} {key : Str} {p : PV} (he : TrE c k sc σ e p σ₁) (hi : vloc sc x = some (i, kd)) (hv : σ₁.vs[i]? = some (some (.dct kvs))) (hix : TrE c k sc σ₁ ix (.str key) σ₁)
    (hnew : key ∉ kvs.map (·.1)) (hlen : kvs.length < 1000) (hs : ∀ env, swapsWith e (some (.Subscript (.Name x xp) ix tpos)) pos.line env = pure false) : TrS c k sc σ (.Assign [.Subscript (.Name x xp) ix tpos] e pos) .next (σ₁.set i (.dct (kvs ++ [(key, p)]))) := by
  intro A env g s Q E L V F hQ
  refine wpAny_Assign_Subscript (he A env g s _ E L V F fun v g' s' N rv => ?_) (hs env)
  refine load_var V N.sim hi hv fun d hs0 _ => ?_
  refine hix A env g' s' _ E L V N.sim fun vk g2 s2 N2 rk => ?_
  obtain ⟨y, ky, v2, e2, hs2, hb2⟩ := N2.sim.fs.vars i _ hv
  rw [vloc_get hi] at e2; cases e2
  have := SlotAt.eq hs2 (N2.stay.slot hs0)
  subst this
  obtain ⟨a, es, n, rfl, ea, rd, nd, sz, mu, ne⟩ := id hb2
  cases rk with
  | str _ t =>
    obtain ⟨kv2, hat, hk, hvv⟩ := dictAt_repV (c := c) ea rd nd
    have hl2 := rd.length
    have hl3 : kv2.length = kvs.length := by have := congrArg List.length hk; simpa using this
    refine wpAny_setItem_pairs (k := key) (strKind_is _ _ _ _) hat.dictOf (fun h' hD hsb => ?_) (by rw [sizeLine_eq]; omega)
    have hst : stored kv2 key v = kv2 ++ [(key, v)] := by
      rw [stored, if_neg]
      rw [List.any_eq_true]
      rintro ⟨q, hq, hqk⟩
      exact hnew (by rw [← hk]; exact List.mem_map.mpr ⟨q, hq, of_decide_eq_true hqk⟩)
    rw [hst] at hD
    obtain ⟨es', n', e1, rd'⟩ := dictOf_obj (c := c) (kvs := kvs ++ [(key, p)]) hD (by simp [hk]) (by simpa using hvv.append (.cons (rv.le N2.le) .nil))
    have F3 : FSim c sc env (σ₁.set i (.dct (kvs ++ [(key, p)]))) g2 { s2 with heap := h', toks := s2.toks + 1 } := by
      refine FSim.setOwn (s' := { s2 with heap := h', toks := s2.toks + 1 }) N2.sim hv rfl (vloc_get hi) hs2 hsb.extBut rfl rfl ⟨a, es', n', rfl, e1, rd', ?_, ?_, mu, ne⟩ (.inr ⟨es, n, ea⟩) hb2
      · rw [List.map_append, List.nodup_append]
        refine ⟨nd, by simp, ?_⟩
        intro a ha b hb
        simp only [List.map_cons, List.map_nil, List.mem_singleton] at hb
        subst hb
        exact fun e => hnew (e ▸ ha)
      · have := rd'.length; simp at this; omega
    exact hQ _ g2 _ (N.le.trans N2.le) F3 trivial
theorem guard_notOwned {a : Addr} {o : Obj} (F : FSim c sc env σ g s) (hg : g.fx a = some o) (i : Nat) : NotOwned sc env σ.vs s.heap i (.ref a) := by
  intro j b' y k' hj hb' ho hy hs
  obtain ⟨y', k'', v', e', hs', hbo⟩ := F.fs.vars j b' hb'
  rw [hy] at e'; cases e'
  have := SlotAt.eq hs hs'
  subst this
  cases b' with
  | val p => cases ho
  | lst xs => obtain ⟨a', its, n, e1, e2, _, _, m⟩ := hbo; cases e1; rw [m.2.1] at hg; cases hg
  | dct xs => obtain ⟨a', its, n, e1, e2, _, _, _, m, _⟩ := hbo; cases e1; rw [m.2.1] at hg; cases hg
def MadeNew (c : KB) (e : Expr) (b : Bind) : Prop :=
  ∀ (A : Around) (env : Env) (s : Shared) (Q : Value → Shared → Prop) (E : Value → Shared → Prop), (∀ o, (∀ (w : World) (g : G) (h : Heap) (a : Addr), h.get? a = some o → NewAt w g h a b) → o.isFreed = false → (∀ v, o.data ≠ .cell v) → Q (.ref s.heap.objs.size) { s with heap := s.heap.push o }) →
    wpAny (model c.prog c.w) A (eval e env) Q E s
theorem made_list {pos : Pos} : MadeNew c (.List [] pos) (.lst []) := by
  intro A env s Q E h
  refine List_ (args_nil ?_)
  refine wpAny_newObj_type ?_ (by show 0 ≤ sizeLine; omega)
  exact h _ (fun w g h a e => ⟨#[], 0, e, .nil, by show 0 ≤ sizeLine; omega⟩) rfl (by intro v q; cases q)
theorem made_dict {pos : Pos} : MadeNew c (.Dict [] [] pos) (.dct []) := by
  intro A env s Q E h
  refine wpAny_Dict_empty ?_
  exact h _ (fun w g h a e => ⟨[], 0, e, .nil, by simp, by simp⟩) rfl (by intro v q; cases q)
theorem swapped_names {x y : Str} {p1 p2 tp vp fp q : Pos} {f e2 : Expr} {fa : List Expr} {fk : List Keyword} (he2 : e2 = .List [] q ∨ e2 = .Dict [] [] q) {n m : Nat} {i j : Nat} (V : EnvSc env sc) (hi : vloc sc x = some (i, .local)) (hj : vloc sc y = some (j, .local)) (hxy : x ≠ y) (hl : (p1.line == p2.line) = true)
:
    swappedStores [.Tuple [.Name x p1, .Name y p2] n tp] (.Tuple [.Call f fa fk fp, e2] m vp) env = pure (some [x, y]) := by
  have k1 : (env.kindOf x == some .local) = true := by rw [V.loc x (lookup_of_get V.nodup (vloc_get hi))]; rfl
  have k2 : (env.kindOf y == some .local) = true := by rw [V.loc y (lookup_of_get V.nodup (vloc_get hj))]; rfl
  have hb : env.blockKind = .function := by
    have := V.kind
    unfold Env.blockKind
    rw [this]; rfl
  have hd : ([x, y].eraseDups.length != [x, y].length) = false := by
    have : (y == x) = false := by simpa using Ne.symm hxy
    simp [List.eraseDups_cons, this]
  have q1 : (p1.line == p1.line) = true := by simp
  have q2 : (p2.line == p1.line) = true := by have : p1.line = p2.line := by simpa using hl
                                              simp [this]
  have hp : (Expr.Name x p1).pos = p1 := rfl
  have h2 : [Expr.Call f fa fk fp, e2].all (foldedForSure 8) = false := rfl
  have h3 : [Expr.Call f fa fk fp, e2].all (constantsAlone 8) = false := rfl
  rcases he2 with rfl | rfl
  all_goals
    unfold swappedStores
    simp only [hb, h2, h3, List.head?_cons, Option.map_some, Option.getD_some, hp, List.filterMap_cons, List.filterMap_nil, k1, k2, q1, q2, Bool.and_true, Bool.true_and, if_true, hd]
    rfl
theorem tr_assign_swap {x y : Str} {p1 p2 tp vp fp q pos : Pos} {f e2 : Expr} {fa : List Expr} {fk : List Keyword} (he2 : e2 = .List [] q ∨ e2 = .Dict [] [] q) {n m : Nat} {i j : Nat} {b1 b2 : Bind} (hi : vloc sc x = some (i, .local)) (hj : vloc sc y = some (j, .local)) (hxy : x ≠ y) (hl : (p1.line == p2.line) = true)
    (h1 : TrN c k sc σ (.Call f fa fk fp) b1 σ₁) (h2 : MadeNew c e2 b2) :
    TrS c k sc σ (.Assign [.Tuple [.Name x p1, .Name y p2] n tp] (.Tuple [.Call f fa fk fp, e2] m vp) pos) .next ((σ₁.set j b2).set i b1) := by
  intro A env g s Q E L V F hQ
  refine Assign_Tuple_swapped ?_ rfl (swapped_names he2 V hi hj hxy hl)
  refine Tuple_ ?_
  have hst2 : starEach [e2] env = (false, eval e2 env) :: starEach [] env := by rcases he2 with rfl | rfl <;> rfl
  refine args_cons (h1 A env g s _ E L V F fun a1 g1 s1 s2 N1 K1 n1 hg1 ho1 w1 => ?_) rfl
  refine args_cons (h2 A env s2 _ E fun o2 w2 hf2 _ => args_nil ?_) hst2
  have hx1 : ∃ o1, s2.heap.get? a1 = some o1 := by
    cases b1 with
    | val p => exact w1.elim
    | lst xs => obtain ⟨its, n, e, _⟩ := w1; exact ⟨_, e⟩
    | dct xs => obtain ⟨its, n, e, _⟩ := w1; exact ⟨_, e⟩
  obtain ⟨o1, hx1⟩ := hx1
  have n12 : a1 ≠ s2.heap.objs.size := Nat.ne_of_lt (Heap.lt_size hx1)
  refine wpAny_newObj_type ?_ (by show 2 ≤ sizeLine; rw [sizeLine_eq]; decide)
  refine wpAny_unpackItems_tuple (items := #[Value.ref a1, Value.ref s2.heap.objs.size]) L.hd ⟨_, Heap.get?_push_size _ rfl, rfl, 0, rfl⟩ fun h5 hx5 => ?_
  generalize ha2 : s2.heap.objs.size = a2 at *
  have up : HExt s2.heap h5 := fun b o e => hx5 b o (by
    have h1 := Heap.lt_size e
    rw [Heap.size_push, Heap.size_push]
    exact Nat.ne_of_lt (Nat.lt_succ_of_lt (Nat.lt_succ_of_lt h1))) (push_ext _ _ _ _ (push_ext _ _ _ _ e))
  have hx2 : h5.get? a2 = some o2 := hx5 a2 o2 (by
    show a2 ≠ ((s2.heap.push o2).push _).objs.size
    rw [Heap.size_push, Heap.size_push, ha2]
    exact Nat.ne_of_lt (Nat.lt_succ_of_lt (Nat.lt_succ_self _))) (push_ext _ _ _ _ (ha2 ▸ Heap.get?_push_size _ hf2))
  have K : HExt s1.heap h5 := fun b o e => up _ _ (K1 _ _ e)
  have n2 : s1.heap.get? a2 = none := by
    cases q : s1.heap.get? a2 with
    | none => rfl
    | some o => exact absurd (Heap.lt_size (K1 _ _ q)) (by rw [ha2]; exact Nat.lt_irrefl _)
  have F1 := N1.sim
  have mu1 := F1.gs.fresh n1
  have Fp := F1.prot (s' := { s2 with heap := h5 }) (own := [a1]) K hg1 ho1 (fun a ha => by rw [List.mem_singleton] at ha; subst ha; exact n1)
  obtain ⟨bo2, no2⟩ := newOwn (s' := { s2 with heap := h5 }) V F1 K n2 (w2 _ _ _ _ hx2) j
  have bo2' : BindOk c.w env (g1.prot h5 [a1]) h5 b2 (.ref a2) := by
    have hm : ∀ {a : Addr}, Value.ref a2 = Value.ref a → Mut g1 a → Mut (g1.prot h5 [a1]) a := fun {a} e m => by
      cases e
      exact ⟨m.1, by rw [G.prot_out (by simpa using Ne.symm n12)]; exact m.2.1, m.2.2⟩
    cases b2 with
    | val p => exact Rep.mono (g := g1) (g' := g1.prot h5 [a1]) (fun _ _ q => q) (fun _ _ q => q) bo2
    | lst xs => obtain ⟨a, its, n, e1, e2', r, sz, m⟩ := bo2; exact ⟨a, its, n, e1, e2', Reps.mono (g := g1) (g' := g1.prot h5 [a1]) (fun _ _ q => q) (fun _ _ q => q) r, sz, hm e1 m⟩
    | dct xs => obtain ⟨a, its, n, e1, e2', r, nd, sz, m, ne⟩ := bo2; exact ⟨a, its, n, e1, e2', RepD.mono (g := g1) (g' := g1.prot h5 [a1]) (fun _ _ q => q) (fun _ _ q => q) r, nd, sz, hm e1 m, ne⟩
  refine wpAny_assignInOrder_more (wpAny_bindName (store_var V Fp hj (.inl rfl) bo2' (fun _ => no2) fun s6 F6 => ?_))
  have hfx : (g1.prot h5 [a1]).fx a1 = some o1 := by rw [G.prot_in (by simp)]; exact up _ _ hx1
  have hx6 : s6.heap.get? a1 = some o1 := F6.gs.fx _ _ hfx
  have no1 := guard_notOwned F6 hfx i
  have ocell : ∀ v, o1.data ≠ .cell v := by
    cases b1 with
    | val p => exact w1.elim
    | lst xs => obtain ⟨its, n, e, _⟩ := w1; rw [hx1] at e; cases e; intro v q; cases q
    | dct xs => obtain ⟨its, n, e, _⟩ := w1; rw [hx1] at e; cases e; intro v q; cases q
  have F7 : FSim c sc env (σ₁.set j b2) g1 s6 := by
    have := F6.own_step (own := [a1]) (s' := s6) (fx' := g1.fx) (fun a ha q => by rw [List.mem_singleton] at ha; subst ha; rw [hfx] at q; cases q) (fun a ha o e v q => by rw [List.mem_singleton] at ha; subst ha; rw [hx6] at e; cases e; exact ocell v q) (fun _ _ _ e => e) rfl rfl fun a o e => by
      have hne : a ≠ a1 := fun z => by rw [z, mu1.2.1] at e; cases e
      have hq : (g1.prot h5 [a1]).fx a = some o := by rw [G.prot_out (by simpa using hne)]; exact e
      exact ⟨F6.gs.fx _ _ hq, by rw [hq]; simp⟩
    exact this
  have bo1 : BindOk c.w env g1 s6.heap b1 (.ref a1) := by
    cases b1 with
    | val p => exact w1.elim
    | lst xs => obtain ⟨its, n, e, r, sz⟩ := w1; rw [hx1] at e; cases e; exact ⟨a1, its, n, rfl, hx6, r, sz, mu1⟩
    | dct xs =>
      obtain ⟨its, n, e, r, nd, sz⟩ := w1; rw [hx1] at e; cases e
      refine ⟨a1, its, n, rfl, hx6, r, nd, sz, mu1, fun q => ?_⟩
      obtain ⟨m, hm⟩ := F1.fs.ns
      obtain ⟨o, _, _, e', _⟩ := Ns.get_some hm
      rw [← q, n1] at e'; cases e'
  refine wpAny_assignInOrder_more (wpAny_bindName (store_var V F7 hi (.inl rfl) bo1 (fun _ => no1) fun s7 F8 => ?_))
  exact wpAny_assignInOrder_none (hQ _ g1 s7 N1.le F8 trivial)
end
end RM
end
noncomputable section
open PySem.SeqAt PySem.MeetsSeq
set_option maxRecDepth 100000
namespace RM
def lexB (e lt : Nat → Bool) : Nat → Nat → Bool
  | 0, _ => false
  | k + 1, i => if e i = true then lexB e lt k (i + 1) else lt i
def LtAt (A : Around) (s : Shared) (y x : Value) (b : Bool) : Prop :=
  ∀ (prog : Program) (w : World) (E : Value → Shared → Prop) (Q : Value → Shared → Prop), Q (.bool b) s → wpAny (model prog w) A (richCompare .Lt y x) Q E s
theorem lt_loopAt (l b : Addr) (items items2 : Array Value) (n n2 : Nat) (hsz : items.size = items2.size) (e lt : Nat → Bool) (k : Nat) :
    ∀ i : Nat, items.size - i = k → Meets (Builtin.«list.__eq__.loop» ⟨[.ref l, .ref b, rawInt i, rawInt 0], []⟩)
      (fun A R s => s.heap.get? l = some (listOf items n) ∧ s.heap.get? b = some (listOf items2 n2) ∧
        (∀ j (h1 : j < items.size) (h2 : j < items2.size), EqAt A.in1 s items[j] items2[j] (e j) ∧ LtAt A.in1 s items[j] items2[j] (lt j)) ∧
        R (.ok (.ret (.bool (lexB e lt k i)))) s) := by
  induction k with
  | zero =>
    intro i hk prog w A R s h
    obtain ⟨hp, g, d, tk, os⟩ := s; obtain ⟨hl, hb, he, h⟩ := h
    wp_walk using AutoSeq1.wpAny_loadPart' hl, AutoSeq1.wpAny_loadPart' hb
    have hi1 : items[((i : Nat) : Int).toNat]? = none := by simp; omega
    have hi2 : items2[((i : Nat) : Int).toNat]? = none := by simp; omega
    rw [hi1, hi2]
    wp_walk using AutoSeq1.wpAny_loadPart' hl, AutoSeq1.wpAny_loadPart' hb
    show R (.ok (.ret (.bool (decide (items.size < items2.size))))) _
    rw [hsz]
    simpa [lexB] using h
  | succ k ih =>
    intro i hk prog w A R s h
    obtain ⟨hp, g, d, tk, os⟩ := s; obtain ⟨hl, hb, he, h⟩ := h
    wp_walk using AutoSeq1.wpAny_loadPart' hl, AutoSeq1.wpAny_loadPart' hb
    have hlt : i < items.size := by omega
    have hlt2 : i < items2.size := by omega
    have hi1 : items[((i : Nat) : Int).toNat]? = some items[i] := by simp [hlt]
    have hi2 : items2[((i : Nat) : Int).toNat]? = some items2[i] := by simp [hlt2]
    have hc : ((i : Int) + 1) = ((i + 1 : Nat) : Int) := by push_cast; rfl
    rw [hi1, hi2]
    refine wpAny_bind ((he i hlt hlt2).1 prog w _ _ ?_)
    cases hb' : e i with
    | true =>
      simp only [lexB, hb', if_true] at h
      wp_walk
      rw [hc]
      exact ⟨plainId_quiet PySem.MeetsSeq3.plain_eq_loop _, codeAny_builtin PySem.MeetsSeq3.entry_eq_loop (by
        rw [Around.under_plainId PySem.MeetsSeq3.plain_eq_loop _]
        exact ih (i + 1) (by omega) prog w A R _ ⟨hl, hb, he, h⟩)⟩
    | false =>
      simp only [lexB, hb', Bool.false_eq_true, if_false] at h
      wp_walk using AutoSeq1.wpAny_loadPart' hl, AutoSeq1.wpAny_loadPart' hb
      rw [hi1, hi2]
      refine wpAny_bind ((he i hlt hlt2).2 prog w _ _ ?_)
      wp_walk
      exact h
theorem list_ltAt (l b : Addr) (items items2 : Array Value) (n n2 : Nat) (hsz : items.size = items2.size) (e lt : Nat → Bool) :
    Meets (Builtin.«list.__lt__» ⟨[.ref l, .ref b], []⟩)
      (fun A R s => s.heap.get? l = some (listOf items n) ∧ s.heap.get? b = some (listOf items2 n2) ∧
        (∀ j (h1 : j < items.size) (h2 : j < items2.size), EqAt A.in1 s items[j] items2[j] (e j) ∧ LtAt A.in1 s items[j] items2[j] (lt j)) ∧
        R (.ok (.ret (.bool (lexB e lt items.size 0)))) s) := by
  intro prog w A R s h
  obtain ⟨hp, g, d, tk, os⟩ := s; obtain ⟨hl, hb, he, h⟩ := h
  have f3 := AutoSeq1.sub_list_list
  wp_walk using AutoSeq1.wpAny_loadPart' hl, AutoSeq1.wpAny_loadPart' hb
  exact ⟨plainId_quiet PySem.MeetsSeq3.plain_eq_loop _, codeAny_builtin PySem.MeetsSeq3.entry_eq_loop (by
    rw [Around.under_plainId PySem.MeetsSeq3.plain_eq_loop _]
    exact lt_loopAt l b items items2 n n2 hsz e lt _ 0 rfl prog w A R _ ⟨hl, hb, he, h⟩)⟩
end RM
end
noncomputable section
open PySem.SeqAt PySem.MeetsSeq
set_option maxRecDepth 100000
namespace RM
def evalT {α : Type} (lt : Nat → Nat → Bool) : KasT α → α
  | .ret a => a
  | .ask i j k => evalT lt (k (lt i j))
def VT {α : Type} (n : Nat) (P : α → Prop) : KasT α → Prop
  | .ret a => P a
  | .ask i j k => i < n ∧ j < n ∧ ∀ b, VT n P (k b)
theorem VT.bind {α β : Type} {n : Nat} {P : α → Prop} {Q : β → Prop} {f : α → KasT β} : ∀ {t : KasT α}, VT n P t → (∀ a, P a → VT n Q (f a)) → VT n Q (t.bind f)
  | .ret a, h, hf => hf a h
  | .ask i j k, ⟨h1, h2, h3⟩, hf => ⟨h1, h2, fun b => VT.bind (h3 b) hf⟩
def AL (n : Nat) (p : Array Nat) : Prop := 0 < n ∧ (∀ x ∈ p, x < n) ∧ p.size = n
theorem AL.get {n : Nat} {p : Array Nat} (h : AL n p) (i : Nat) : p.getD i 0 < n := by
  by_cases hi : i < p.size
  · have : p.getD i 0 = p[i] := by simp [Array.getD, hi]
    rw [this]; exact h.2.1 _ (Array.getElem_mem hi)
  · have : p.getD i 0 = 0 := by simp [Array.getD, hi]
    rw [this]; exact h.1
theorem AL.perm {n : Nat} {p q : Array Nat} (h : AL n p) (hp : q.Perm p) : AL n q := ⟨h.1, fun x hx => h.2.1 x (by
  have := Array.perm_iff_toList_perm.mp hp
  have h1 := this.mem_iff (a := x)
  simp only [Array.mem_toList_iff] at h1
  exact h1.mp hx), hp.size_eq.trans h.2.2⟩
theorem AL.rev {n : Nat} {p : Array Nat} (h : AL n p) (i j : Nat) : AL n (kas_rev p i j) := h.perm (mirror_perm ..)
theorem AL.bub {n : Nat} {p : Array Nat} (h : AL n p) (i j : Nat) : AL n (bubble p i j) := h.perm (bubble_perm ..)
theorem v_asc {n : Nat} {p : Array Nat} (h : AL n p) : ∀ f m, VT n (fun _ => True) (kas_asc p f m)
  | 0, m => trivial
  | f + 1, m => ⟨h.get _, h.get _, fun b => by
    dsimp only
    split
    · trivial
    · exact v_asc h f (m + 1)⟩
theorem v_desc {n : Nat} : ∀ f {p : Array Nat}, AL n p → ∀ m q, VT n (fun r => AL n r.1) (kas_desc f p m q)
  | 0, p, h, m, q => h
  | f + 1, p, h, m, q => ⟨h.get _, h.get _, fun b => by
    dsimp only
    split
    · split
      · exact v_desc f (h.rev _ _) _ _
      · exact v_desc f h _ _
    · refine ⟨h.get _, h.get _, fun d => ?_⟩
      dsimp only
      split
      · exact h
      · exact v_desc f h _ _⟩
theorem v_tail3 {n m r : Nat} {p : Array Nat} (h : AL n p) : VT n (fun a => AL n a.2) (kas_tail3 m r p) := by
  unfold kas_tail3
  exact (v_asc (h.rev _ _) _ _).bind fun a _ => h.rev _ _
theorem v_descPart {n m r : Nat} {p : Array Nat} (h : AL n p) : VT n (fun a => AL n a.2) (kas_descPart m r p) := by
  unfold kas_descPart
  refine (v_desc _ h _ _).bind fun a ha => ?_
  split
  · exact v_tail3 (ha.rev _ _)
  · exact v_tail3 ha
theorem v_count {n r : Nat} {p : Array Nat} (h : AL n p) : VT n (fun a => AL n a.2) (kas_count r p) := by
  unfold kas_count
  refine (v_asc h _ _).bind fun a _ => ?_
  split
  · exact h
  · split
    · refine ⟨h.get _, h.get _, fun b => ?_⟩
      dsimp only
      split
      · exact h
      · exact v_descPart (h.rev _ _)
    · exact v_descPart h
theorem v_place {n k : Nat} {p : Array Nat} (h : AL n p) : ∀ f l r, VT n (fun _ => True) (kas_place p k f l r)
  | 0, l, r => trivial
  | f + 1, l, r => by
    unfold kas_place
    split
    · trivial
    · refine ⟨h.get _, h.get _, fun b => ?_⟩
      dsimp only
      split
      · exact v_place h f _ _
      · exact v_place h f _ _
theorem v_bin {n : Nat} : ∀ f {p : Array Nat}, AL n p → ∀ k, VT n (fun _ => True) (kas_bin f p k)
  | 0, p, h, k => trivial
  | f + 1, p, h, k => by
    unfold kas_bin
    exact (v_place h _ _ _).bind fun l _ => v_bin f (h.bub _ _) _
theorem v_sort {n : Nat} (hn : 0 < n) : VT n (fun _ => True) (kas_sort n) := by
  unfold kas_sort
  have h : AL n (List.toArray (List.range n)) := ⟨hn, fun x hx => by simpa using hx, by simp⟩
  refine (v_count h).bind fun a ha => ?_
  split
  · exact v_bin _ ha _
  · trivial
theorem eval_wp {α : Type} {n : Nat} {P : α → Prop} {lt : Nat → Nat → Bool} {cmp : Nat → Nat → (Bool → Shared → Prop) → Shared → Prop} {s : Shared} (hc : ∀ i j (C : Bool → Shared → Prop), i < n → j < n → C (lt i j) s → cmp i j C s) {Q : α → Shared → Prop} :
    ∀ {t : KasT α}, VT n P t → Q (evalT lt t) s → t.kasWp cmp Q s
  | .ret a, _, h => h
  | .ask i j k, ⟨h1, h2, h3⟩, h => hc i j _ h1 h2 (eval_wp hc (h3 _) h)
section
variable {prog : Program} {w : World} {A : Around} {E : Value → Shared → Prop} {s : Shared}
theorem oneLt_list {x y : Addr} {its its2 : Array Value} {n n2 : Nat} {e lt : Nat → Bool} {Q : Bool → Shared → Prop} (hx : s.heap.get? x = some (listOf its n)) (hy : s.heap.get? y = some (listOf its2 n2)) (hsz : its.size = its2.size) (hu : A.units + 2 < cLine)
    (he : ∀ (A : Around) j (h1 : j < its.size) (h2 : j < its2.size), EqAt A s its[j] its2[j] (e j) ∧ LtAt A s its[j] its2[j] (lt j)) (hQ : Q (lexB e lt its.size 0) s) : wpAny (model prog w) A (oneLt' true (.ref x) (.ref y)) Q E s := by
  rw [oneLt'_eq]
  simp only [if_true]
  refine wpAny_bind (wpAny_cRoomFor (by omega) ?_)
  refine wpAny_bind (wpAny_callSpecialIfBound?_slot (T := "list") ⟨_, hx, rfl⟩ PySem.F.slot_list_lt (call_meets PySem.F.slot_list_lt ⟨_, hx, rfl⟩ PySem.F.entry_list_lt (PySem.F.args_list_lt_2 _ _) (list_ltAt x y its its2 n n2 hsz e lt) ⟨hx, hy, fun j h1 h2 => he _ j h1 h2, ?_⟩))
  exact wpAny_truthy_bool hQ
end
end RM
end
noncomputable section
open PySem.SeqAt PySem.MeetsSeq
set_option maxRecDepth 100000
namespace RM
def sortOut {α : Type} (lt : Nat → Nat → Bool) (d : α) (vs : List α) : List α :=
  if vs.length < 2 then vs else (evalT lt (kas_sort vs.length)).toList.map fun i => vs.getD i d
section
variable {prog : Program} {w : World} {A : Around} {E : Value → Shared → Prop} {s : Shared}
theorem list_sort_lists {a : Addr} {vs : List Value} {n : Nat} {lt : Nat → Nat → Bool} {P : PySem.Fin → Shared → Prop} (ho : s.heap.get? a = some (seqObj "list" vs.toArray n)) (h64 : vs.length < 64)
    (hlook : ∀ v ∈ vs, ∃ x its m, v = .ref x ∧ x ≠ a ∧ s.heap.get? x = some (listOf its m))
    (hask : ∀ (s' : Shared), (∀ b o, b ≠ a → s.heap.get? b = some o → s'.heap.get? b = some o) → ∀ i j (C : Bool → Shared → Prop), i < vs.length → j < vs.length → C (lt i j) s' → wpAny (model prog w) A (keyLt' oneType' (vs.getD i Value.none) (vs.getD j Value.none)) C (fun _ _ => False) s')
    (h : P (.done (.ret .none)) { s with heap := sortedHeap s.heap a vs (sortOut lt Value.none vs).toArray }) :
    wpAny (model prog w) A (Builtin.«list.sort» ⟨[.ref a], []⟩) P E s := by
  rw [list_sort_plain]
  have ha : a < s.heap.objs.size := Heap.lt_size ho
  refine wpAny_bind (listItems_at ho rfl ?_)
  refine wpAny_bind (listUpdate_at ho rfl ?_ (by rw [List.size_toArray, sizeLine_eq]; omega) (Nat.zero_le _))
  obtain ⟨e1, ho1⟩ : ∃ e1, (s.heap.update a (Obj.mapSeq fun _ => #[])).get? a = some (seqObj "list" #[] e1) := ⟨_, get?_update_seq ho (fun _ => #[])⟩
  refine wpAny_bind (seqEpoch_at ho1 rfl ?_)
  refine wpAny_bind (wpAny_newTuple ?_ (by show vs.length ≤ _; rw [sizeLine_eq]; omega))
  refine wpAny_bind (wpAny_newList ?_ (Nat.zero_le _))
  refine wpAny_holding ?_
  have oth : ∀ b o, b ≠ a → s.heap.get? b = some o → (((s.heap.update a (Obj.mapSeq fun _ => #[])).push (seqObj "tuple" vs.toArray 0)).push (seqObj "list" #[] 0)).get? b = some o := fun b o hb e => by
    have hlt : b < s.heap.objs.size := Heap.lt_size e
    rw [Heap.get?_push_ne _ _ _ (by rw [size_push', Heap.size_update]; exact Nat.ne_of_lt (Nat.lt_succ_of_lt hlt)), Heap.get?_push_ne _ _ _ (by rw [Heap.size_update]; exact Nat.ne_of_lt hlt)]
    exact (Heap.get?_update_other _ _ (Ne.symm hb)).trans e
  have ho6 : (((s.heap.update a (Obj.mapSeq fun _ => #[])).push (seqObj "tuple" vs.toArray 0)).push (seqObj "list" #[] 0)).get? a = some (seqObj "list" #[] e1) := by
    rw [Heap.get?_push_ne _ _ _ (by rw [size_push', Heap.size_update]; exact Nat.ne_of_lt (Nat.lt_succ_of_lt ha)), Heap.get?_push_ne _ _ _ (by rw [Heap.size_update]; exact Nat.ne_of_lt ha)]
    exact ho1
  show wpAny (model prog w) A _ P E { s with heap := ((s.heap.update a (Obj.mapSeq fun _ => #[])).push (seqObj "tuple" vs.toArray 0)).push (seqObj "list" #[] 0) }
  dsimp only
  have hsz : vs.toArray.size = vs.length := by simp
  by_cases h2 : vs.length < 2
  · have h2' : vs.toArray.size < 2 := by rw [hsz]; exact h2
    rw [if_pos h2', if_pos h2']
    refine wpAny_bind (wpAny_pure ?_)
    rw [StateT.run_pure]
    refine wpAny_bind (wpAny_pure ?_)
    dsimp only
    refine wpAny_bind (seqEpoch_at ho6 rfl ?_)
    have hout : (arrOf (SortSt.mk' general' (vs.toArray.zip vs.toArray) #[] 7 none)).map (·.2) = (sortOut lt Value.none vs).toArray := by
      show ((vs.toArray.zip vs.toArray).map (·.2)) = _
      rw [sortOut, if_pos h2]
      apply Array.toList_inj.mp
      simp only [Array.toList_map, Array.toList_zip]
      exact List.map_snd_zip (Nat.le_refl _)
    rw [hout]
    refine wpAny_bind (listUpdate_at ho6 rfl ?_ (Nat.zero_le _) (by rw [sortOut, if_pos h2, List.size_toArray, sizeLine_eq]; omega))
    simp only [bne_self_eq_false, Bool.false_eq_true, if_false]
    exact wpAny_pure h
  · have h2' : ¬ vs.toArray.size < 2 := by rw [hsz]; exact h2
    rw [if_neg h2', if_neg h2']
    refine wpAny_bind (kas_kind (T := .type "list") (by omega) (fun v hv => ?_) (by decide) (by decide) ?_)
    · obtain ⟨x, its, m, rfl, hx, e⟩ := hlook v hv
      exact (Looks.ld (oth _ _ hx e)).andThen .now
    · refine wpAny_bind (wpAny_mono (kat_run (A := A) (κ := oneType') (Q := fun st' s' => s' = { s with heap := ((s.heap.update a (Obj.mapSeq fun _ => #[])).push (seqObj "tuple" vs.toArray 0)).push (seqObj "list" #[] 0) } ∧ arrOf st' = (evalT lt (kas_sort vs.length)).map (kas_item (vs.toArray.zip vs.toArray)) ∧ failedOf st' = none ∧ (evalT lt (kas_sort vs.length)).size = vs.length)
        (G := fun p s' => s' = { s with heap := ((s.heap.update a (Obj.mapSeq fun _ => #[])).push (seqObj "tuple" vs.toArray 0)).push (seqObj "list" #[] 0) } ∧ p = evalT lt (kas_sort vs.length))
        rfl (by omega) h64 (fun p st' s' a1 a2 a3 a4 => ⟨a4.1, by rw [a2, a4.2], a3, by rw [← a4.2]; exact a1⟩) (eval_wp (n := vs.length) (lt := lt) (fun i j C hi hj hC => hask _ oth i j C hi hj hC) (v_sort (by omega)) ⟨rfl, rfl⟩)) ?_ fun _ _ e => e)
      rintro ⟨⟨⟩, st'⟩ s' ⟨rfl, har, hf, hes⟩
      dsimp only
      refine wpAny_bind (seqEpoch_at ho6 rfl ?_)
      have hout : (arrOf st').map (·.2) = (sortOut lt Value.none vs).toArray := by
        rw [sortOut, if_neg h2]
        exact kat_snds rfl har
      rw [hout]
      refine wpAny_bind (listUpdate_at ho6 rfl ?_ (Nat.zero_le _) (by rw [sortOut, if_neg h2, List.size_toArray, List.length_map, Array.length_toList, hes, sizeLine_eq]; omega))
      rw [hf]
      simp only [bne_self_eq_false, Bool.false_eq_true, if_false]
      exact wpAny_pure h
theorem sorted_lists {l : Addr} {vs : List Value} {lt : Nat → Nat → Bool} {Q : Value → Shared → Prop} (hl : s.heap.IsList l vs.toArray) (h64 : vs.length < 64)
    (hlook : ∀ v ∈ vs, ∃ x its m, v = .ref x ∧ s.heap.get? x = some (listOf its m))
    (hask : ∀ (s' : Shared), HExt s.heap s'.heap → ∀ i j (C : Bool → Shared → Prop), i < vs.length → j < vs.length → C (lt i j) s' → wpAny (model prog w) A.in1.in1 (keyLt' oneType' (vs.getD i Value.none) (vs.getD j Value.none)) C (fun _ _ => False) s')
    (h : Q (.ref (s.heap.objs.size + 1)) { s with heap := sortedAll s.heap vs (sortOut lt Value.none vs).toArray }) :
    wpAny (model prog w) A (call (.builtin "sorted") [.ref l]) Q E s := by
  refine Calls.call_function_entry kind_sorted plain_sorted entry_sorted (args_sorted1 _) ?_
  unfold Builtin.«sorted»
  refine wpAny_bind (m := checkCount "sorted" 1 1 _) (wpAny_pure ?_)
  refine wpAny_bind (collect_list hl ?_ (by rw [sizeLine_eq]; omega))
  refine wpAny_bind (wpAny_newList ?_ (by rw [sizeLine_eq]; omega))
  have hsz : ((s.heap.push (seqObj "list" #[] 0)).update s.heap.objs.size (Obj.mapSeq (· ++ vs.toArray))).objs.size = s.heap.objs.size + 1 := by
    rw [Heap.size_update, size_push']
  have hoL : (((s.heap.push (seqObj "list" #[] 0)).update s.heap.objs.size (Obj.mapSeq (· ++ vs.toArray))).push (seqObj "list" vs.toArray 0)).get? (s.heap.objs.size + 1) = some (seqObj "list" vs.toArray 0) := by
    rw [← hsz]; exact Heap.get?_push_size _ rfl
  have keep : ∀ b o, s.heap.get? b = some o → (((s.heap.push (seqObj "list" #[] 0)).update s.heap.objs.size (Obj.mapSeq (· ++ vs.toArray))).push (seqObj "list" vs.toArray 0)).get? b = some o := fun b o q => by
    have hlt : b < s.heap.objs.size := Heap.lt_size q
    rw [Heap.get?_push_ne _ _ _ (by rw [hsz]; exact Nat.ne_of_lt (Nat.lt_succ_of_lt hlt)), Heap.get?_update_ne _ _ _ _ (Nat.ne_of_lt hlt), Heap.get?_push_ne _ _ _ (Nat.ne_of_lt hlt)]
    exact q
  show wpAny _ _ _ _ _ { s with heap := ((s.heap.push (seqObj "list" #[] 0)).update s.heap.objs.size (Obj.mapSeq (· ++ vs.toArray))).push (seqObj "list" vs.toArray 0) }
  rw [hsz]
  refine wpAny_bind (wpAny_holding (wpAny_call_entry slot_list_sort ⟨_, hoL, rfl⟩ entry_list_sort (list_sort_lists (lt := lt) hoL h64 (fun v hv => ?_) (fun s' K i j C hi hj hC => hask s' (fun b o e => K b o (Nat.ne_of_lt (Nat.lt_succ_of_lt (Heap.lt_size e))) (keep b o e)) i j C hi hj hC) ⟨_, rfl, ?_⟩) (args_list_sort _)))
  · obtain ⟨x, its, m, rfl, e⟩ := hlook v hv
    exact ⟨x, its, m, rfl, Nat.ne_of_lt (Nat.lt_succ_of_lt (Heap.lt_size e)), keep _ _ e⟩
  · exact wpAny_pure ⟨_, rfl, h⟩
end
end RM
end
noncomputable section
open PySem.SeqAt PySem.MeetsSeq
set_option maxRecDepth 100000
namespace RM
section
variable {prog : Program} {w : World} {A : Around} {E : Value → Shared → Prop} {s : Shared}
theorem collect_tup {l : Addr} {vs : List Value} {n : Nat} {Q : List Value → Shared → Prop} (hl : s.heap.get? l = some (tupOf vs.toArray n))
    (h : Q vs { s with heap := (s.heap.push (seqObj "list" #[] 0)).update s.heap.objs.size (Obj.mapSeq (· ++ vs.toArray)) }) (hsz : vs.length ≤ 1000) :
    wpAny (model prog w) A (collect (.ref l)) Q E s := by
  unfold collect
  refine wpAny_bind (wpAny_runValue (codeAny_builtin entry_proto_collect' ?_))
  show wpAny _ _ (do again (.builtin "list.__iadd__" ⟨[← newList [], .ref l], []⟩)) _ _ s
  refine wpAny_bind (wpAny_newList (wpAny_pure ⟨Code.quiet_builtin _ (by decide +kernel), codeAny_builtin entry_list_iadd' ?_⟩))
  show wpAny _ _ (Builtin.List.listExtendWith (.ref s.heap.objs.size) (.ref l) (.ref s.heap.objs.size)) _ _ { s with heap := s.heap.push (seqObj "list" #[] 0) }
  have ho' : (s.heap.push (seqObj "list" #[] 0)).get? l = some (tupOf vs.toArray n) := Heap.get?_push_of_some _ hl
  unfold Builtin.List.listExtendWith
  refine wpAny_bind (wpAny_typeOf (T := "tuple") ⟨_, ho', rfl⟩ ?_)
  have ht : (Value.type "tuple" == Value.type "tuple") = true := by rfl
  rw [if_pos (by rw [ht]; simp)]
  refine wpAny_bind (listItems_at ho' rfl ?_)
  refine wpAny_bind (listItems_at (xs := #[]) (n := 0) (Heap.get?_push_size _ rfl) rfl ?_)
  refine wpAny_bind (listUpdate_at (xs := #[]) (n := 0) (Heap.get?_push_size _ rfl) rfl ?_ (Nat.zero_le _) (by show (#[] ++ vs.toArray).size ≤ sizeLine + 1; simp only [Array.size_append, List.size_toArray, List.length_nil, sizeLine_eq]; omega))
  refine wpAny_pure ?_
  show wpAny (model prog w) A (do
      let o ← load s.heap.objs.size
      match o.data with
      | .seq xs _ => pure xs.toList
      | _ => unsupported "internal:collect") Q E { s with heap := (s.heap.push (seqObj "list" #[] 0)).update s.heap.objs.size (Obj.mapSeq (· ++ vs.toArray)) }
  refine wpAny_bind (wpAny_load (get?_update_seq (Heap.get?_push_size _ rfl) _) ?_)
  show wpAny _ _ (pure ((#[] : Array Value) ++ vs.toArray).toList) Q E _
  rw [show ((#[] : Array Value) ++ vs.toArray).toList = vs by simp]
  exact wpAny_pure h
theorem sorted_tup_strs {l : Addr} {vs : List Value} {ss : List Str} {n : Nat} {Q : Value → Shared → Prop} (hl : s.heap.get? l = some (tupOf vs.toArray n)) (hS : StrsAre vs ss) (h64 : vs.length < 64)
    (h : ∀ (out : Array Value) (ss' : List Str), StrsAre out.toList ss' → ss'.Perm ss → sortedS ss' = true → Q (.ref (s.heap.objs.size + 1)) { s with heap := sortedAll s.heap vs out }) :
    wpAny (model prog w) A (call (.builtin "sorted") [.ref l]) Q E s := by
  refine Calls.call_function_entry kind_sorted plain_sorted entry_sorted (args_sorted1 _) ?_
  unfold Builtin.«sorted»
  refine wpAny_bind (m := checkCount "sorted" 1 1 _) (wpAny_pure ?_)
  refine wpAny_bind (collect_tup hl ?_ (by omega))
  refine wpAny_bind (wpAny_newList ?_ (by rw [sizeLine_eq]; omega))
  have hsz : ((s.heap.push (seqObj "list" #[] 0)).update s.heap.objs.size (Obj.mapSeq (· ++ vs.toArray))).objs.size = s.heap.objs.size + 1 := by
    rw [Heap.size_update, size_push']
  have hoL : (((s.heap.push (seqObj "list" #[] 0)).update s.heap.objs.size (Obj.mapSeq (· ++ vs.toArray))).push (seqObj "list" vs.toArray 0)).get? (s.heap.objs.size + 1) = some (seqObj "list" vs.toArray 0) := by
    rw [← hsz]; exact Heap.get?_push_size _ rfl
  show wpAny _ _ _ _ _ { s with heap := ((s.heap.push (seqObj "list" #[] 0)).update s.heap.objs.size (Obj.mapSeq (· ++ vs.toArray))).push (seqObj "list" vs.toArray 0) }
  rw [hsz]
  refine wpAny_bind (wpAny_holding (wpAny_call_entry slot_list_sort ⟨_, hoL, rfl⟩ entry_list_sort (list_sort_treeK strKind_oneLt hoL hS.keysOf (fun v₁ v₂ rest e => keyKind_strs (by rw [← e]; exact hS)) h64 fun st' a1 a2 => ⟨_, rfl, ?_⟩) (args_list_sort _)))
  obtain ⟨ss', h1, h2, h3⟩ := sorted_out_str hS a1 a2
  exact wpAny_pure ⟨_, rfl, h _ ss' h1 h2 h3⟩
end
section
variable {c : KB} {k : Nat} {sc : Scope} {σ σ' σ₁ σ₂ σ₃ : St} {pl : List PRec} {g g' : G} {s s' : Shared} {env : Env}
theorem strs_of_reps : ∀ {vs : List Value} {ss : List Str}, Reps c.w g vs (ss.map .str) → StrsAre vs ss
  | _, [], .nil => .nil
  | _, x :: ss, .cons r rs => by cases r with | str _ t => exact .cons x t (strs_of_reps rs)
theorem reps_of_strs : ∀ {vs : List Value} {ss : List Str}, StrsAre vs ss → Reps c.w g vs (ss.map .str)
  | _, _, .nil => .nil
  | _, _, .cons x t r => .cons (.str x t) (reps_of_strs r)
theorem tr_sorted_strs {p' pos : Pos} {e : Expr} {p : PV} {ss out : List Str} {i : Nat} (hi : vloc sc "sorted" = some (i, .globalImplicit)) (hg : c.mg "sorted" = none) (hp : PlainArgs [e]) (he : TrE c k sc σ e p σ₁)
    (hps : p = .list (ss.map .str) ∨ p = .tup (ss.map .str)) (hl : ss.length < 64) (huniq : ∀ ss', ss'.Perm ss → sortedS ss' = true → ss' = out) : TrN c k sc σ (.Call (.Name "sorted" p') [e] [] pos) (.lst (out.map .str)) σ₁ := by
  intro A env g s Q E L V F hQ
  refine builtin_call (id := "sorted") hi hg (by decide +kernel) (by decide +kernel) hp (args1 hp he) L V F fun vs g' s' N R => ?_
  cases R with
  | cons rv R =>
    cases R
    have fin : ∀ (vs : List Value), vs.length < 64 → ∀ (o : Array Value) (ss' : List Str), StrsAre o.toList ss' → ss'.Perm ss → sortedS ss' = true → Q (.ref (s'.heap.objs.size + 1)) { s' with heap := sortedAll s'.heap vs o } := by
      intro vs hvs o ss' h1 h2 h3
      have := huniq ss' h2 h3
      subst this
      obtain ⟨ne, hne⟩ := sortedAll_at s'.heap vs o
      have ho := h1.length
      have h2l := h2.length_eq
      rw [Array.length_toList] at ho
      exact hQ _ g' s' _ N (fun b o e => sortedAll_old e) (get_none_of_ge (Nat.le_succ _)) rfl rfl ⟨o, ne, hne, reps_of_strs h1, by rw [sizeLine_eq]; omega⟩
    rcases hps with rfl | rfl
    · obtain ⟨ad, its, n, rfl, e1, r, sz⟩ := Sees.list N.sim.gs (.inl rv)
      have hlen := r.length
      rw [Array.length_toList, List.length_map] at hlen
      exact sorted_strs (vs := its.toList) (by simpa using IsList_of e1) (strs_of_reps r) (by rw [Array.length_toList]; omega) (fin _ (by rw [Array.length_toList]; omega))
    · cases rv with
      | tup ef r sz =>
        rename_i ad its n
        have hlen := r.length
        rw [Array.length_toList, List.length_map] at hlen
        exact sorted_tup_strs (vs := its.toList) (n := n) (by simpa using N.sim.gs.fz _ _ ef) (strs_of_reps r) (by rw [Array.length_toList]; omega) (fin _ (by rw [Array.length_toList]; omega))
def embL (x : List Str) : PV := .list (x.map .str)
def ltL (l : List (List Str)) (i j : Nat) : Bool :=
  lexB (fun m => decide ((l.getD i [])[m]? = (l.getD j [])[m]?)) (fun m => decide (((l.getD i []).getD m ⟨#[]⟩).cps.toList < ((l.getD j []).getD m ⟨#[]⟩).cps.toList)) (l.getD i []).length 0
theorem evalT_P {α : Type} {n : Nat} {P : α → Prop} {lt : Nat → Nat → Bool} (t : KasT α) (h : VT n P t) : P (evalT lt t) := by
  induction t with
  | ret a => exact h
  | ask i j k ih => exact ih _ (h.2.2 _)
theorem v_bin2 {n : Nat} : ∀ f {p : Array Nat}, AL n p → ∀ k, VT n (AL n) (kas_bin f p k)
  | 0, p, h, k => h
  | f + 1, p, h, k => by
    unfold kas_bin
    exact (v_place h _ _ _).bind fun l _ => v_bin2 f (h.bub _ _) _
theorem v_sort2 {n : Nat} (hn : 0 < n) : VT n (AL n) (kas_sort n) := by
  unfold kas_sort
  have h : AL n (List.toArray (List.range n)) := ⟨hn, fun x hx => by simpa using hx, by simp⟩
  refine (v_count h).bind fun a ha => ?_
  split
  · exact v_bin2 _ ha _
  · exact ha
theorem reps_sortOut {l : List (List Str)} {vs : List Value} {lt : Nat → Nat → Bool} (r : Reps c.w g vs (l.map embL)) : Reps c.w g (sortOut lt Value.none vs) ((sortOut lt [] l).map embL) := by
  have hl := r.length
  rw [List.length_map] at hl
  unfold sortOut
  rw [hl]
  split
  · exact r
  · rename_i h2
    have hal : AL l.length (evalT lt (kas_sort l.length)) := evalT_P _ (v_sort2 (by omega))
    generalize evalT lt (kas_sort l.length) = p at hal
    have : ∀ q : List Nat, (∀ x ∈ q, x < l.length) → Reps c.w g (q.map fun i => vs.getD i Value.none) ((q.map fun i => l.getD i []).map embL) := by
      intro q
      induction q with
      | nil => intro _; exact .nil
      | cons x q ih =>
        intro hq
        have hx := hq x (by simp)
        refine .cons ?_ (ih fun y hy => hq y (by simp [hy]))
        obtain ⟨v, hv, rv⟩ := r.get (i := x) (p := embL (l.getD x [])) (by simp [hx])
        have : vs.getD x Value.none = v := by simp [List.getD, hv]
        show Rep c.w g (vs.getD x Value.none) _
        rw [this]; exact rv
    exact this p.toList fun x hx => hal.2.1 x (by simpa using hx)
theorem tr_sorted_lists {p' pos : Pos} {e : Expr} {l : List (List Str)} {xs : List PV} {m : Nat} {i : Nat} (hi : vloc sc "sorted" = some (i, .globalImplicit)) (hg : c.mg "sorted" = none) (hp : PlainArgs [e]) (he : TrV c k sc σ e (.list xs) σ₁) (hxs : xs = l.map embL)
    (hl : l.length < 64) (hm : ∀ x ∈ l, x.length = m) : TrN c k sc σ (.Call (.Name "sorted" p') [e] [] pos) (.lst ((sortOut (ltL l) [] l).map embL)) σ₁ := by
  subst hxs
  intro A env g s Q E L V F hQ
  refine builtin_callV (id := "sorted") hi hg (by decide +kernel) (by decide +kernel) hp he L V F fun v g' s' N rv => ?_
  obtain ⟨ad, its, n, rfl, e1, r, sz⟩ := rv.list N.sim.gs
  have hlen := r.length
  rw [Array.length_toList, List.length_map] at hlen
  have hget : ∀ j, j < its.toList.length → ∃ a vs' n', its.toList.getD j Value.none = .ref a ∧ g'.fz a = some (listOf vs' n') ∧ Reps c.w g' vs'.toList ((l.getD j []).map .str) ∧ (l.getD j []).length = m := by
    intro j hj
    rw [Array.length_toList] at hj
    have hjl : j < l.length := by omega
    obtain ⟨v, hv, rv⟩ := r.get (i := j) (p := embL (l.getD j [])) (by simp [hjl])
    have e2 : its.toList.getD j Value.none = v := by simp only [List.getD, hv]; rfl
    rw [e2]
    cases rv with
    | list ef rr sz' => exact ⟨_, _, _, rfl, ef, rr, hm _ (by simp [hjl])⟩
  refine sorted_lists (vs := its.toList) (lt := ltL l) (by simpa using IsList_of e1) (by rw [Array.length_toList]; omega) (fun v hv => ?_) (fun s2 K i j C hi2 hj2 hC => ?_) ?_
  · obtain ⟨j, hj⟩ := List.getElem?_of_mem hv
    have hjl := (List.getElem?_eq_some_iff.mp hj).1
    obtain ⟨a, vs', n', q1, q2, _⟩ := hget j hjl
    have : its.toList.getD j Value.none = v := by simp only [List.getD, hj]; rfl
    rw [this] at q1
    exact ⟨a, vs', n', q1, N.sim.gs.fz _ _ q2⟩
  · obtain ⟨a, vs1, n1, q1, q2, q3, q4⟩ := hget i hi2
    obtain ⟨b, vs2, n2, w1, w2, w3, w4⟩ := hget j hj2
    rw [q1, w1, keyLt'_oneType]
    have z1 := q3.length
    have z2 := w3.length
    rw [Array.length_toList, List.length_map] at z1 z2
    refine oneLt_list (its := vs1) (its2 := vs2) (n := n1) (n2 := n2) (e := fun m => decide ((l.getD i [])[m]? = (l.getD j [])[m]?)) (lt := fun m => decide (((l.getD i []).getD m ⟨#[]⟩).cps.toList < ((l.getD j []).getD m ⟨#[]⟩).cps.toList)) (K _ _ (N.sim.gs.fz _ _ q2)) (K _ _ (N.sim.gs.fz _ _ w2)) (by omega) (by have := L.un; have := L.k; show A.units + 1 + 1 + 2 < 9900; omega) (fun A' t h1 h2 => ?_) ?_
    · have t1 : t < (l.getD i []).length := by omega
      have t2 : t < (l.getD j []).length := by omega
      obtain ⟨v1, y1, r1⟩ := q3.get (i := t) (p := .str (l.getD i [])[t]) (by rw [List.getElem?_map, List.getElem?_eq_getElem t1]; rfl)
      obtain ⟨v2, y2, r2⟩ := w3.get (i := t) (p := .str (l.getD j [])[t]) (by rw [List.getElem?_map, List.getElem?_eq_getElem t2]; rfl)
      have y1' : vs1[t] = v1 := by have := y1; rw [Array.getElem?_toList, Array.getElem?_eq_getElem h1] at this; exact Option.some.inj this
      have y2' : vs2[t] = v2 := by have := y2; rw [Array.getElem?_toList, Array.getElem?_eq_getElem h2] at this; exact Option.some.inj this
      rw [y1', y2']
      generalize hx1 : (l.getD i [])[t] = x1 at r1
      generalize hx2 : (l.getD j [])[t] = x2 at r2
      have g1 : (l.getD i [])[t]? = some x1 := by rw [List.getElem?_eq_getElem t1, hx1]
      have g2 : (l.getD j [])[t]? = some x2 := by rw [List.getElem?_eq_getElem t2, hx2]
      have g3 : (l.getD i []).getD t ⟨#[]⟩ = x1 := by simp only [List.getD_eq_getElem?_getD] at g1 ⊢; rw [g1]; rfl
      have g4 : (l.getD j []).getD t ⟨#[]⟩ = x2 := by simp only [List.getD_eq_getElem?_getD] at g2 ⊢; rw [g2]; rfl
      rw [g1, g2, g3, g4]
      cases r1 with
      | str _ tk1 =>
        cases r2 with
        | str _ tk2 =>
          refine ⟨?_, fun prog w E Q h => ?_⟩
          · have : decide (some x1 = some x2) = (x1 == x2) := by by_cases h : x1 = x2 <;> simp [h]
            rw [this]
            exact EqAt.str_str _ _ _ _
          · exact lt_str h
    · have : vs1.size = (l.getD i []).length := by omega
      rw [this]; exact hC
  · obtain ⟨ne, hne⟩ := sortedAll_at s'.heap its.toList (sortOut (ltL l) Value.none its.toList).toArray
    have hr := reps_sortOut (lt := ltL l) r
    have hrl := hr.length
    have hfin : (sortOut (ltL l) [] l).length ≤ 1000 := by
      unfold sortOut
      split
      · omega
      · have hal : AL l.length (evalT (ltL l) (kas_sort l.length)) := evalT_P _ (v_sort2 (by omega))
        rw [List.length_map, Array.length_toList, hal.2.2]; omega
    exact hQ _ g' s' _ N (fun b o e => sortedAll_old e) (get_none_of_ge (Nat.le_succ _)) rfl rfl ⟨_, ne, hne, by simpa using hr, by rw [List.size_toArray, hrl, List.length_map, sizeLine_eq]; omega⟩
end
end RM
end
noncomputable section
open PySem.SeqAt PySem.MeetsSeq
set_option maxRecDepth 100000
namespace RM
section
variable (c : KB) (k : Nat) (sc : Scope)
def CmpRV (op : CmpOp) (p q : PV) (b : Bool) : Prop :=
  ∀ {pl g s}, GS c pl g s → ∀ {A : Around} {v v' : Value} {Q : Value → Shared → Prop} {E : Value → Shared → Prop}, Lim k A → Rep c.w g v p → Sees c.w g s.heap v' q → Q (.bool b) s → wpAny (model c.prog c.w) A (compareOp op v v') Q E s
end
section
variable {c : KB} {k : Nat} {sc : Scope} {σ σ' σ₁ σ₂ σ₃ : St} {pl : List PRec} {g g' : G} {s s' : Shared} {env : Env}
theorem CmpPV.toR {op : CmpOp} {p q : PV} {b : Bool} (h : CmpPV c k op p q b) : CmpRV c k op p q b := fun X _ _ _ _ _ L r s q => h X L (.inl r) s q
theorem trt_cmpR {l r : Expr} {op : CmpOp} {pos : Pos} {p q : PV} {b : Bool} (hl : TrE c k sc σ l p σ₁) (hr : TrV c k sc σ₁ r q σ₂) (h : CmpRV c k op p q b) (hm : behindInMarks op r = false) : TrT c k sc σ (.Compare l [op] [r] pos) b σ₂ := by
  intro A env g s Q E L V F hQ
  refine wpAny_isTrue_Compare1 (hl A env g s _ E L V F fun v g' s' N rv => ?_) hm
  exact hr A env g' s' _ E L V N.sim fun v' g'' s'' N' rv' => h N'.sim.gs L (rv.le N'.le) rv' (wpAny_truthy_bool (hQ _ _ (N.trans N')))
theorem cmpR_in {α : Type} [DecidableEq α] {d : Nat} {emb : α → PV} (h : EqEmb c d emb) (hd : d ≤ 50) {x : α} {l : List α} : CmpRV c k .In (emb x) (.list (l.map emb)) (decide (x ∈ l)) :=
  fun X _ _ _ _ _ L r s q => cmp_in_listR h hd X L r s q
theorem cmpR_notin {α : Type} [DecidableEq α] {d : Nat} {emb : α → PV} (h : EqEmb c d emb) (hd : d ≤ 50) {x : α} {l : List α} : CmpRV c k .NotIn (emb x) (.list (l.map emb)) (!decide (x ∈ l)) :=
  fun X _ _ _ _ _ L r s q => cmp_notin_listR h hd X L r s q
theorem tr_len_dict {p' pos : Pos} {e : Expr} {kvs : List (Str × PV)} {i : Nat} (hi : vloc sc "len" = some (i, .globalImplicit)) (hg : c.mg "len" = none) (hp : PlainArgs [e]) (ha : TrE c k sc σ e (.dict kvs) σ₁) : TrE c k sc σ (.Call (.Name "len" p') [e] [] pos) (.int kvs.length) σ₁ := by
  intro A env g s Q E L V F hQ
  refine builtin_call (id := "len") hi hg (by decide +kernel) (by decide +kernel) hp (args1 hp ha) L V F fun vs g' s' N R => ?_
  cases R with
  | cons rv R =>
    cases R
    cases rv with
    | dict lo ef r nd sz =>
      obtain ⟨kv2, hat, hk, _⟩ := dictAt_repV (c := c) (N.sim.gs.fz _ _ ef) r nd
      have hlen : kv2.length = kvs.length := by have := congrArg List.length hk; simpa using this
      have hl2 := r.length
      refine call_len_dict lo hat.dictOf (by omega) ?_
      rw [hlen]
      exact hQ _ g' _ ⟨N.le, N.sim.toks _, N.stay⟩ (.int _ _)
theorem eqEmb_embL : EqEmb c 1 embL := eqEmb_list (eqEmb_str id (fun _ _ h => h))
theorem valueAt_of {kb : List (Str × Value)} (nd : (kb.map (·.1)).Nodup) {j : Nat} {x : Str} {y : Value} (h : kb[j]? = some (x, y)) : valueAt kb x = some y := by
  induction kb generalizing j with
  | nil => simp at h
  | cons p r ih =>
    simp only [List.map_cons, List.nodup_cons] at nd
    cases j with
    | zero => simp at h; subst h; simp [valueAt]
    | succ j =>
      have h' : r[j]? = some (x, y) := by simpa using h
      have hne : p.1 ≠ x := fun e => nd.1 (e ▸ List.mem_map.mpr ⟨_, List.mem_of_getElem? h', rfl⟩)
      have := ih nd.2 h'
      simp only [valueAt, List.find?_cons] at this ⊢
      simp only [hne, decide_false]
      exact this
theorem cmp_eq_dict {kvs : List (Str × List Str)} : CmpPV c k .Eq (.dict (kvs.map fun p => (p.1, embL p.2))) (.dict (kvs.map fun p => (p.1, embL p.2))) true := by
  intro pl g s X A v v' Q E L hv hv' hq
  cases hv.rep (by intro xs q; cases q) with
  | dict lo ef r nd sz =>
    cases hv'.rep (by intro xs q; cases q) with
    | dict lo' ef' r' nd' sz' =>
      obtain ⟨ka, ha, hka, hva⟩ := dictAt_repV (c := c) (X.fz _ _ ef) r nd
      obtain ⟨kb, hb, hkb, hvb⟩ := dictAt_repV (c := c) (X.fz _ _ ef') r' nd'
      have hla : ka.length = kvs.length := by have := congrArg List.length hka; simpa using this
      have hlb : kb.length = kvs.length := by have := congrArg List.length hkb; simpa using this
      have hits : ∀ (m : Nat), m ≤ ka.length → KeqHits A.in1 s kb (ka.drop (ka.length - m)) true := by
        intro m
        induction m with
        | zero => intro _; simp; exact .nil
        | succ m ih =>
          intro hm
          have hlt : ka.length - (m + 1) < ka.length := by omega
          rw [List.drop_eq_getElem_cons hlt]
          have e : ka.length - (m + 1) + 1 = ka.length - m := by omega
          rw [e]
          generalize hj : ka.length - (m + 1) = j at hlt
          have hja : ka[j]? = some ka[j] := List.getElem?_eq_getElem hlt
          have hjb : kb[j]? = some (kb[j]'(by omega)) := List.getElem?_eq_getElem _
          generalize ka[j] = q1 at hja
          generalize (kb[j]'(by omega)) = q2 at hjb
          obtain ⟨x1, v1⟩ := q1
          obtain ⟨x2, v2⟩ := q2
          have k1 : (kvs.map (·.1))[j]? = some x1 := by
            have : (ka.map (·.1))[j]? = some x1 := by simp [hja]
            rw [hka] at this; simpa using this
          have k2 : (kvs.map (·.1))[j]? = some x2 := by
            have : (kb.map (·.1))[j]? = some x2 := by simp [hjb]
            rw [hkb] at this; simpa using this
          rw [k1] at k2; cases k2
          obtain ⟨p1, hp1, r1⟩ := hva.getV (i := j) (v := v1) (by simp [hja])
          obtain ⟨p2, hp2, r2⟩ := hvb.getV (i := j) (v := v2) (by simp [hjb])
          rw [hp1] at hp2; cases hp2
          obtain ⟨q, hq1, rfl⟩ : ∃ q, kvs[j]? = some q ∧ p1 = embL q.2 := by
            simp only [List.map_map, List.getElem?_map] at hp1
            cases hkq : kvs[j]? with
            | none => rw [hkq] at hp1; cases hp1
            | some q => rw [hkq] at hp1; simp at hp1; exact ⟨q, rfl, hp1.symm⟩
          have he := eqEmb_embL.at' X (A := A.in1) (by have := L.u; show A.units + 1 + 1 < cLine; omega) r1 r2
          rw [decide_eq_true rfl] at he
          have := KeqHits.hit (b := true) (valueAt_of (by rw [hkb]; exact nd') hjb) he (ih (by omega))
          simpa using this
      refine keq_eq lo lo' ha.dictOf hb.dictOf (r := true) (by have := L.u; omega) (fun _ => by have := hits ka.length (Nat.le_refl _); simpa using this) ?_
      rw [hla, hlb]; simpa using hq
end
end RM
end
noncomputable section
namespace RM
section
variable {c : KB} {k : Nat} {sc : Scope} {σ σ' σ₁ σ₂ σ₃ : St} {pl : List PRec} {g g' : G} {s s' : Shared} {env : Env}
theorem range_split {n i : Nat} {done rest : List Nat} (h : List.range n = done ++ i :: rest) : i = done.length ∧ i < n := by
  have h1 : (List.range n)[done.length]? = some i := by rw [h]; simp
  have h2 := (List.getElem?_eq_some_iff.mp h1)
  obtain ⟨hlt, e⟩ := h2
  simp at hlt e
  exact ⟨e.symm, by omega⟩
theorem for_inv_nat {f : Nat → PV} {target : Expr} {body : List Stmt} (St' : Nat → St → Prop) (n : Nat)
    (hs : ∀ i σ, i < n → St' i σ → ∃ σ₁ fl σ₂, TrA c k sc σ target (f i) σ₁ ∧ TrSs c k sc σ₁ body fl σ₂ ∧ (fl = .next ∨ fl = .cont) ∧ St' (i + 1) σ₂) (h0 : St' 0 σ) :
    ∃ σ', ForRun c k sc target body ((List.range n).map f) σ .next σ' ∧ St' n σ' := by
  obtain ⟨σ', h1, h2⟩ := for_inv (c := c) (k := k) (sc := sc) (f := f) (target := target) (body := body) (fun done σ => St' done.length σ) (List.range n) (fun i done rest σ e h => by
    obtain ⟨q1, q2⟩ := range_split e
    subst q1
    obtain ⟨σ₁, fl, σ₂, a1, a2, a3, a4⟩ := hs _ σ q2 h
    exact ⟨σ₁, fl, σ₂, a1, a2, a3, by simpa using a4⟩) (l := List.range n) (done := []) rfl h0
  exact ⟨σ', h1, by simpa using h2⟩
theorem tr_for_enum_inv {α : Type} [Inhabited α] (emb : α → PV) (St' : Nat → St → Prop) {l : List α} {elts : List Expr} {x1 : Nat} {tp p' p2 pos : Pos} {e : Expr} {body : List Stmt} {ys : List PV} {i : Nat} (hi : vloc sc "enumerate" = some (i, .globalImplicit)) (hg : c.mg "enumerate" = none) (hp : PlainArgs [e]) (he : TrE c k sc σ e (.list ys) σ₁) (hys : ys = l.map emb)
    (h0 : St' 0 σ₁) (hs : ∀ i σ, i < l.length → St' i σ → ∃ σ₁ fl σ₂, TrA c k sc σ (.Tuple elts x1 tp) (.tup [.int (i : Nat), emb (l.getD i default)]) σ₁ ∧ TrSs c k sc σ₁ body fl σ₂ ∧ (fl = .next ∨ fl = .cont) ∧ St' (i + 1) σ₂) :
    ∃ σ', TrS c k sc σ (.For (.Tuple elts x1 tp) (.Call (.Name "enumerate" p') [e] [] p2) body [] pos) .next σ' ∧ St' l.length σ' := by
  obtain ⟨σ', h1, h2⟩ := for_inv_nat (c := c) (k := k) (sc := sc) (f := fun i => .tup [.int (i : Nat), emb (l.getD i default)]) (target := .Tuple elts x1 tp) (body := body) St' l.length hs h0
  subst hys
  refine ⟨σ', tr_for_enum hi hg hp he ?_, h2⟩
  have : enumPV 0 (l.map emb) = (List.range l.length).map fun i => .tup [.int (i : Nat), emb (l.getD i default)] := by
    apply List.ext_getElem?
    intro j
    rw [enumPV_get]
    by_cases h : j < l.length
    · simp [h]
    · simp [h]
  rw [this]; exact h1
theorem tr_for_dict_inv {α : Type} {f : α → Str} {target iter : Expr} {body : List Stmt} {pos : Pos} (St' : List α → St → Prop) {l : List α} {kvs : List (Str × PV)} (he : TrE c k sc σ iter (.dict kvs) σ₁) (hkv : kvs.map (·.1) = l.map f) (h0 : St' [] σ₁)
    (hs : ∀ a done rest σ, l = done ++ a :: rest → St' done σ → ∃ σ₁ fl σ₂, TrA c k sc σ target (.str (f a)) σ₁ ∧ TrSs c k sc σ₁ body fl σ₂ ∧ (fl = .next ∨ fl = .cont) ∧ St' (done ++ [a]) σ₂) (hfold : ∀ env x, foldedSetIterable iter env x = pure x) :
    ∃ σ', TrS c k sc σ (.For target iter body [] pos) .next σ' ∧ St' l σ' := by
  obtain ⟨σ', h1, h2⟩ := for_inv (c := c) (k := k) (sc := sc) (f := fun a => .str (f a)) (target := target) (body := body) St' l hs (l := l) (done := []) rfl h0
  refine ⟨σ', tr_for_dict he ?_ hfold, by simpa using h2⟩
  have : keysPV kvs = l.map fun a => .str (f a) := by
    have e : keysPV kvs = (kvs.map (·.1)).map PV.str := by simp [keysPV, List.map_map, Function.comp_def]
    rw [e, hkv, List.map_map]; rfl
  rw [this]; exact h1
theorem for_ret {α : Type} {f : α → PV} {target : Expr} {body : List Stmt} {St' : St → Prop} {P : α → Prop} [DecidablePred P] {p : PV} :
    ∀ {l : List α} {σ : St}, (∀ a σ, a ∈ l → St' σ → ∃ σ₁ σ₂, TrA c k sc σ target (f a) σ₁ ∧ St' σ₂ ∧ (P a → TrSs c k sc σ₁ body .next σ₂) ∧ (¬ P a → TrSs c k sc σ₁ body (.ret p) σ₂)) → St' σ →
    ∃ σ', ForRun c k sc target body (l.map f) σ (if ∀ a ∈ l, P a then .next else .ret p) σ' ∧ St' σ'
  | [], σ, _, h => ⟨σ, by simp [ForRun], h⟩
  | a :: l, σ, hs, h => by
    obtain ⟨σ₁, σ₂, h1, h2, h3, h4⟩ := hs a σ (by simp) h
    by_cases hP : P a
    · obtain ⟨σ', h5, h6⟩ := for_ret (l := l) (σ := σ₂) (fun b σ hb => hs b σ (by simp [hb])) h2
      refine ⟨σ', ⟨σ₁, .next, σ₂, h1, h3 hP, ?_⟩, h6⟩
      have : (∀ b ∈ a :: l, P b) ↔ ∀ b ∈ l, P b := by simp [hP]
      simp only [this]; exact h5
    · refine ⟨σ₂, ⟨σ₁, .ret p, σ₂, h1, h4 hP, ?_⟩, h2⟩
      have : ¬ ∀ b ∈ a :: l, P b := fun h => hP (h a (by simp))
      rw [if_neg this]; exact ⟨rfl, rfl⟩
theorem tr_for_ret {α : Type} {f : α → PV} {target iter : Expr} {body : List Stmt} {pos : Pos} (St' : St → Prop) (P : α → Prop) {p : PV} {l : List α} {xs : List PV} {b : Bool} (hb : b = true ↔ ∀ a ∈ l, P a) (he : TrE c k sc σ iter (.list xs) σ₁) (hxs : xs = l.map f) (h0 : St' σ₁)
    (hs : ∀ a σ, a ∈ l → St' σ → ∃ σ₁ σ₂, TrA c k sc σ target (f a) σ₁ ∧ St' σ₂ ∧ (P a → TrSs c k sc σ₁ body .next σ₂) ∧ (¬ P a → TrSs c k sc σ₁ body (.ret p) σ₂)) (hfold : ∀ env x, foldedSetIterable iter env x = pure x) :
    ∃ σ', TrS c k sc σ (.For target iter body [] pos) (if b = true then .next else .ret p) σ' ∧ St' σ' := by
  classical
  obtain ⟨σ', h1, h2⟩ := for_ret (c := c) (k := k) (sc := sc) (f := f) (target := target) (body := body) (St' := St') (P := P) (p := p) hs h0
  subst hxs
  refine ⟨σ', tr_for he ?_ hfold, h2⟩
  simp only [hb]; exact h1
theorem tr_for_dict_ret {α : Type} {f : α → Str} {target iter : Expr} {body : List Stmt} {pos : Pos} (St' : St → Prop) (P : α → Prop) {p : PV} {l : List α} {kvs : List (Str × PV)} {b : Bool} (hb : b = true ↔ ∀ a ∈ l, P a) (he : TrE c k sc σ iter (.dict kvs) σ₁) (hkv : kvs.map (·.1) = l.map f) (h0 : St' σ₁)
    (hs : ∀ a σ, a ∈ l → St' σ → ∃ σ₁ σ₂, TrA c k sc σ target (.str (f a)) σ₁ ∧ St' σ₂ ∧ (P a → TrSs c k sc σ₁ body .next σ₂) ∧ (¬ P a → TrSs c k sc σ₁ body (.ret p) σ₂)) (hfold : ∀ env x, foldedSetIterable iter env x = pure x) :
    ∃ σ', TrS c k sc σ (.For target iter body [] pos) (if b = true then .next else .ret p) σ' ∧ St' σ' := by
  classical
  obtain ⟨σ', h1, h2⟩ := for_ret (c := c) (k := k) (sc := sc) (f := fun a => .str (f a)) (target := target) (body := body) (St' := St') (P := P) (p := p) hs h0
  have e : keysPV kvs = l.map fun a => .str (f a) := by
    have e : keysPV kvs = (kvs.map (·.1)).map PV.str := by simp [keysPV, List.map_map, Function.comp_def]
    rw [e, hkv, List.map_map]; rfl
  refine ⟨σ', tr_for_dict he ?_ hfold, h2⟩
  rw [e]; simp only [hb]; exact h1
end
end RM
end
noncomputable section
namespace RM
def nthS : Nat → List Stmt → Stmt
  | _, [] => .Pass ⟨0, 0, 0, 0⟩
  | 0, s :: _ => s
  | n + 1, _ :: r => nthS n r
def clsBody : Stmt → List Stmt
  | .ClassDef _ _ _ b .. => b
  | _ => []
def P : List Stmt := PySem.Challenge.pw_au0004_01.main.body
def S_delete := nthS 2 P
def S_first := nthS 4 P
def S_locate := nthS 5 P
def S_pairs := nthS 6 P
def S_binit := nthS 0 (clsBody (nthS 8 P))
def S_forget := nthS 2 (clsBody (nthS 8 P))
def S_setprefs := nthS 5 (clsBody (nthS 8 P))
def S_pinit := nthS 0 (clsBody (nthS 10 P))
def S_match := nthS 1 (clsBody (nthS 10 P))
def S_unmatch := nthS 2 (clsBody (nthS 10 P))
def S_fav := nthS 3 (clsBody (nthS 10 P))
def S_succ := nthS 4 (clsBody (nthS 10 P))
def S_order := nthS 12 P
def S_lists := nthS 13 P
def S_pairings := nthS 14 P
def S_stable := nthS 15 P
def S_players := nthS 16 P
def S_left := nthS 17 P
def S_within := nthS 18 P
def S_cycle := nthS 19 P
def S_taken := nthS 20 P
def S_law := nthS 21 P
end RM
end
noncomputable section
namespace RM
abbrev Pl := Fin 6
def nm (i : Pl) : Str := ⟨#[97 + i.val]⟩
def ob (i : Pl) : PV := .obj i.val
def nv (i : Pl) : PV := .str (nm i)
def mtV : Option Pl → PV
  | none => .none
  | some j => ob j
def recOf (L pr : Pl → List Pl) (mt : Pl → Option Pl) (i : Pl) : PRec :=
  [("name", nv i), ("prefs", .list ((pr i).map ob)), ("matching", mtV (mt i)), ("_pref_names", .list ((L i).map nv)), ("_original_prefs", .list ((L i).map ob))]
def plOf (ps : List Pl) (L pr : Pl → List Pl) (mt : Pl → Option Pl) : List PRec := ps.map (recOf L pr mt)
def upd {α : Type} (f : Pl → α) (i : Pl) (v : α) : Pl → α := fun j => if j = i then v else f j
structure PsOk (ps : List Pl) : Prop where
  nd : ps.Nodup
  at' : ∀ i ∈ ps, ps[i.val]? = some i
theorem upd_self {α : Type} (f : Pl → α) (i : Pl) (v : α) : upd f i v i = v := by simp [upd]
theorem upd_ne {α : Type} (f : Pl → α) {i j : Pl} (v : α) (h : j ≠ i) : upd f i v j = f j := by simp [upd, h]
theorem nm_inj : ∀ a b : Pl, nm a = nm b → a = b := by decide +kernel
theorem eqOb {c : KB} : EqEmb c 1 ob := eqEmb_comp eqEmb_obj (fun i : Pl => i.val) (fun _ _ h => Fin.ext h)
theorem eqNv {c : KB} : EqEmb c 0 nv := eqEmb_str nm nm_inj
theorem plOf_get {ps : List Pl} (ok : PsOk ps) {L pr : Pl → List Pl} {mt : Pl → Option Pl} {i : Pl} (hi : i ∈ ps) : (plOf ps L pr mt)[i.val]? = some (recOf L pr mt i) := by
  simp [plOf, ok.at' i hi]
theorem plOf_set {ps : List Pl} (ok : PsOk ps) {L pr pr' : Pl → List Pl} {mt mt' : Pl → Option Pl} {i : Pl} (hi : i ∈ ps) (h : ∀ j, j ≠ i → recOf L pr' mt' j = recOf L pr mt j) :
    (plOf ps L pr mt).set i.val (recOf L pr' mt' i) = plOf ps L pr' mt' := by
  apply List.ext_getElem?
  intro m
  by_cases q : m = i.val
  · subst q
    have := plOf_get ok (L := L) (pr := pr) (mt := mt) hi
    rw [List.getElem?_set_self (List.getElem?_eq_some_iff.mp this).1, plOf_get ok hi]
  · rw [List.getElem?_set_ne (Ne.symm q)]
    simp only [plOf, List.getElem?_map]
    cases e : ps[m]? with
    | none => rfl
    | some j =>
      have hj := List.mem_of_getElem? e
      have hji : j ≠ i := fun z => by
        subst z
        have h1 := ok.at' j hj
        have hlt := (List.getElem?_eq_some_iff.mp e).1
        exact q ((List.getElem?_inj hlt ok.nd).mp (e.trans h1.symm))
      simp [h j hji]
section
variable {c : KB} {k : Nat} {ps : List Pl} {L pr : Pl → List Pl} {mt : Pl → Option Pl} {a : Addr}
theorem fav_spec (hf : FnOk c a S_fav) (hk : k + 1 ≤ 150) (ok : PsOk ps) {i j : Pl} {r : List Pl} (hi : i ∈ ps) (h3 : pr i = j :: r) :
    FnSpec c k a [ob i] (plOf ps L pr mt) (ob j) (plOf ps L pr mt) := by
  refine fn_intro (σ' := ⟨[some (.val (ob i))], plOf ps L pr mt⟩) hf rfl (by decide +kernel) (by decide +kernel) hk (fl := .ret (ob j)) ?_ (.inl rfl)
  have hvs : initVs (fdScope S_fav) (fdNames S_fav) [ob i] = [some (.val (ob i))] := by rfl
  rw [hvs]
  refine trs_stop (tr_return ?_) (by simp)
  exact tr_item (j := 0) (xs := (pr i).map ob) (tr_attr (i := i.val) (tr_name (by rfl) (by rfl)) (plOf_get ok hi) (by decide +kernel) (by rfl) (fun _ => rfl)) tr_int (by simp [h3]) (fun _ _ _ => rfl)
theorem match_spec (hf : FnOk c a S_match) (hk : k + 1 ≤ 150) (ok : PsOk ps) {i j : Pl} (hi : i ∈ ps) :
    FnSpec c k a [ob i, ob j] (plOf ps L pr mt) .none (plOf ps L pr (upd mt i (some j))) := by
  refine fn_intro (σ' := ⟨[some (.val (ob i)), some (.val (ob j))], plOf ps L pr (upd mt i (some j))⟩) hf rfl (by decide +kernel) (by decide +kernel) hk (fl := .next) ?_ (.inr ⟨rfl, rfl⟩)
  have hvs : initVs (fdScope S_match) (fdNames S_match) [ob i, ob j] = [some (.val (ob i)), some (.val (ob j))] := by rfl
  rw [hvs]
  refine trs_cons ((tr_assign_attr (tr_name (by rfl) (by rfl)) (tr_name (i := 0) (p := ob i) (by rfl) (by rfl)) (plOf_get ok hi) (by decide +kernel) (by show 5 < 50; decide) (fun _ => rfl)).to ?_) trs_nil
  have e : putA "matching" (ob j) (recOf L pr mt i) = recOf L pr (upd mt i (some j)) i := by
    simp only [recOf, upd_self, mtV]; rfl
  dsimp only
  rw [e, plOf_set ok hi]
  intro m hm; simp [recOf, upd_ne _ _ hm]
theorem unmatch_spec (hf : FnOk c a S_unmatch) (hk : k + 1 ≤ 150) (ok : PsOk ps) {i : Pl} (hi : i ∈ ps) :
    FnSpec c k a [ob i] (plOf ps L pr mt) .none (plOf ps L pr (upd mt i none)) := by
  refine fn_intro (σ' := ⟨[some (.val (ob i))], plOf ps L pr (upd mt i none)⟩) hf rfl (by decide +kernel) (by decide +kernel) hk (fl := .next) ?_ (.inr ⟨rfl, rfl⟩)
  have hvs : initVs (fdScope S_unmatch) (fdNames S_unmatch) [ob i] = [some (.val (ob i))] := by rfl
  rw [hvs]
  refine trs_cons ((tr_assign_attr tr_none (tr_name (i := 0) (p := ob i) (by rfl) (by rfl)) (plOf_get ok hi) (by decide +kernel) (by show 5 < 50; decide) (fun _ => rfl)).to ?_) trs_nil
  have e : putA "matching" .none (recOf L pr mt i) = recOf L pr (upd mt i none) i := by
    simp only [recOf, upd_self, mtV]; rfl
  dsimp only
  rw [e, plOf_set ok hi]
  intro m hm; simp [recOf, upd_ne _ _ hm]
def fgt (pr : Pl → List Pl) (i j : Pl) : Pl → List Pl := upd pr i ((pr i).filter fun x => !decide (x = j))
def del (pr : Pl → List Pl) (i j : Pl) : Pl → List Pl := fgt (fgt pr i j) j i
theorem forget_spec (hf : FnOk c a S_forget) (hk : k + 1 ≤ 150) (ok : PsOk ps) {i j : Pl} (hi : i ∈ ps) (hl : (pr i).length ≤ 1000) :
    FnSpec c k a [ob i, ob j] (plOf ps L pr mt) .none (plOf ps L (fgt pr i j) mt) := by
  refine fn_intro (σ' := ⟨[some (.val (ob i)), some (.val (ob j))], plOf ps L (fgt pr i j) mt⟩) hf rfl (by decide +kernel) (by decide +kernel) hk (fl := .next) ?_ (.inr ⟨rfl, rfl⟩)
  have hvs : initVs (fdScope S_forget) (fdNames S_forget) [ob i, ob j] = [some (.val (ob i)), some (.val (ob j))] := by rfl
  rw [hvs]
  refine trs_cons ((tr_assign_attr (tr_compf (l := pr i) (f := ob) (val := ob) (keep := fun x => !decide (x = j)) (Inv := fun vs => ∃ x y, vs = [x, y, some (.val (ob j))]) (tr_attr (i := i.val) (tr_name (by rfl) (by rfl)) (plOf_get ok hi) (by decide +kernel) (by rfl) (fun _ => rfl)) (.list _) rfl (by rfl) (by rfl) (by decide +kernel) ⟨_, _, rfl⟩ ?_ ?_ (fun _ _ => rfl))
    (tr_name (i := 0) (p := ob i) (by rfl) (by rfl)) (plOf_get ok hi) (by decide +kernel) (by show 5 < 50; decide) (fun _ => rfl)).to ?_) trs_nil
  · rintro b - vs ⟨x, y, rfl⟩
    refine ⟨[x, some (.val (ob b)), some (.val (ob j))], ⟨_, _, rfl⟩, (tra_name (by rfl) (by rfl)).to, ?_, fun _ => tr_name (by rfl) (by rfl)⟩
    exact (trt_cmp (tr_name (by rfl) (by rfl)) (tr_name (by rfl) (by rfl)).toV cmp_ne_obj rfl).to (by simp [Fin.ext_iff]; rfl)
  · omega
  · have e : putA "prefs" (.list (((pr i).filter fun x => !decide (x = j)).map ob)) (recOf L pr mt i) = recOf L (fgt pr i j) mt i := by
      simp only [recOf, fgt, upd_self]; rfl
    dsimp only
    rw [e, plOf_set ok hi]
    intro m hm; simp [recOf, fgt, upd_ne _ _ hm]
theorem succ_spec (hf : FnOk c a S_succ) (hk : k + 1 ≤ 150) (ok : PsOk ps) {i j : Pl} (hi : i ∈ ps) (hj : mt i = some j) (hm : j ∈ pr i) (hl : (pr i).length ≤ 1000) :
    FnSpec c k a [ob i] (plOf ps L pr mt) (.list (((pr i).drop ((pr i).idxOf j + 1)).map ob)) (plOf ps L pr mt) := by
  refine fn_intro (σ' := ⟨[some (.val (ob i)), some (.val (.int ((pr i).idxOf j)))], plOf ps L pr mt⟩) hf rfl (by decide +kernel) (by decide +kernel) hk (fl := .ret _) ?_ (.inl rfl)
  have hvs : initVs (fdScope S_succ) (fdNames S_succ) [ob i] = [some (.val (ob i)), none] := by rfl
  rw [hvs]
  refine trs_cons ((tr_assign (tr_index eqOb (by decide) (a := j) (tr_attr (i := i.val) (tr_name (by rfl) (by rfl)) (plOf_get ok hi) (by decide +kernel) (by rfl) (fun _ => rfl)) rfl (fun _ => rfl) (tr_attr (i := i.val) (p := ob j) (tr_name (by rfl) (by rfl)) (plOf_get ok hi) (by decide +kernel) (by simp only [recOf, hj]; rfl) (fun _ => rfl)) rfl hm (fun _ => rfl) rfl) (by rfl) (by rfl) (fun _ => rfl)).to (σ'' := ⟨[some (.val (ob i)), some (.val (.int ((pr i).idxOf j)))], plOf ps L pr mt⟩) rfl) ?_
  refine trs_stop (tr_return ((tr_slice (nl := some ((pr i).idxOf j + 1)) (nh := none) (tr_attr (i := i.val) (tr_name (by rfl) (by rfl)) (plOf_get ok hi) (by decide +kernel) (by rfl) (fun _ => rfl)) (part_some (tr_add (tr_name (by rfl) (by rfl)) tr_int) (by push_cast; rfl)) part_none (.inr rfl)).toE.to ?_)) (by simp)
  simp [sliceOf, List.map_drop]
end
structure Meths (c : KB) where
  forget : Addr
  fav : Addr
  mat : Addr
  unm : Addr
  succ : Addr
  f_forget : FnOk c forget S_forget
  f_fav : FnOk c fav S_fav
  f_mat : FnOk c mat S_match
  f_unm : FnOk c unm S_unmatch
  f_succ : FnOk c succ S_succ
  m_forget : MethAt c "_forget" forget
  m_fav : MethAt c "get_favourite" fav
  m_mat : MethAt c "_match" mat
  m_unm : MethAt c "_unmatch" unm
  m_succ : MethAt c "get_successors" succ
section
variable {c : KB} {k : Nat} {ps : List Pl} {L pr : Pl → List Pl} {mt : Pl → Option Pl} {a : Addr}
theorem fgt_len (pr : Pl → List Pl) (i j m : Pl) : (fgt pr i j m).length ≤ (pr m).length := by
  unfold fgt upd
  split
  · rename_i h; subst h; exact List.length_filter_le ..
  · exact Nat.le_refl _
theorem delete_spec (M : Meths c) (hf : FnOk c a S_delete) (hk : k + 2 ≤ 150) (ok : PsOk ps) {i j : Pl} (hi : i ∈ ps) (hj : j ∈ ps) (hl : ∀ m, (pr m).length ≤ 1000) :
    FnSpec c k a [ob i, ob j] (plOf ps L pr mt) .none (plOf ps L (del pr i j) mt) := by
  refine fn_intro (σ' := ⟨[some (.val (ob i)), some (.val (ob j))], plOf ps L (del pr i j) mt⟩) hf rfl (by decide +kernel) (by decide +kernel) (by omega) (fl := .next) ?_ (.inr ⟨rfl, rfl⟩)
  have hvs : initVs (fdScope S_delete) (fdNames S_delete) [ob i, ob j] = [some (.val (ob i)), some (.val (ob j))] := by rfl
  rw [hvs]
  refine trs_cons ((tr_expr' (tr_meth (i := i.val) (tr_name (by rfl) (by rfl)) (plOf_get ok hi) M.m_forget (by rfl) (fun _ => rfl) (args1 (fun _ => rfl) (tr_name (by rfl) (by rfl))) (forget_spec M.f_forget (by omega) ok hi (hl i)) (fun _ => rfl) (by simp) rfl) (fun _ => rfl)).to (σ'' := ⟨[some (.val (ob i)), some (.val (ob j))], plOf ps L (fgt pr i j) mt⟩) rfl) ?_
  refine trs_cons ((tr_expr' (tr_meth (i := j.val) (tr_name (by rfl) (by rfl)) (plOf_get ok hj) M.m_forget (by rfl) (fun _ => rfl) (args1 (fun _ => rfl) (tr_name (by rfl) (by rfl))) (forget_spec M.f_forget (by omega) ok hj (Nat.le_trans (fgt_len ..) (hl j))) (fun _ => rfl) (by simp) rfl) (fun _ => rfl)).to rfl) trs_nil
end
end RM
end
noncomputable section
namespace RM
def sucs (pr : Pl → List Pl) (f p : Pl) : List Pl := (pr f).drop ((pr f).idxOf p + 1)
def prd (pr : Pl → List Pl) (f : Pl) (D : List Pl) : Pl → List Pl := fun x =>
  if x = f then (pr f).filter (fun y => !decide (y ∈ D)) else if x ∈ D then (pr x).filter (fun y => !decide (y = f)) else pr x
def Fd (pr : Pl → List Pl) (f : Pl) (D F : List Pl) : List Pl := F.filter fun x => !(decide (x ∈ D) && ((pr x).filter fun y => !decide (y = f)).isEmpty)
theorem prd_nil (pr : Pl → List Pl) (f : Pl) : prd pr f [] = pr := by
  funext x
  simp only [prd]
  split
  · rename_i h; subst h; simp
  · simp
theorem filter_id {α : Type} {l : List α} {p : α → Bool} (h : ∀ x ∈ l, p x = true) : l.filter p = l := by
  rw [List.filter_eq_self]; exact h
theorem prd_step (pr : Pl → List Pl) {f s : Pl} {D : List Pl} (hs : s ≠ f) (hD : s ∉ D) : prd pr f (D ++ [s]) = del (prd pr f D) s f := by
  funext x
  by_cases h1 : x = f
  · subst h1
    simp only [del, fgt, upd_self, upd_ne _ _ (Ne.symm hs), prd, if_true, List.filter_filter]
    congr 1; funext y
    rw [Bool.eq_iff_iff]
    simp [and_comm, not_or]
  · by_cases h2 : x = s
    · subst h2
      have hfx : f ≠ x := Ne.symm hs
      simp only [del, fgt, upd_ne _ _ hs, upd_self, prd, if_neg hs, if_neg hD]
      simp
    · simp only [del, fgt, upd_ne _ _ h1, upd_ne _ _ h2, prd, if_neg h1]
      simp [h2]
theorem Fd_nil (pr : Pl → List Pl) (f : Pl) (F : List Pl) : Fd pr f [] F = F := by
  simp only [Fd]; exact filter_id (by simp)
theorem filter_erase {α : Type} [DecidableEq α] {p : α → Bool} {s : α} : ∀ {l : List α}, l.Nodup → s ∈ l → (∀ x ∈ l, p x = !decide (x = s)) → l.filter p = l.eraseIdx (l.idxOf s)
  | [], _, h, _ => by cases h
  | x :: l, nd, h, hp => by
    rw [List.nodup_cons] at nd
    by_cases q : x = s
    · subst q
      have h1 : p x = false := by rw [hp x (by simp)]; simp
      simp only [List.filter_cons, h1, Bool.false_eq_true, if_false, List.idxOf_cons_self, List.eraseIdx_cons_zero]
      refine filter_id fun y hy => ?_
      rw [hp y (by simp [hy])]
      have : y ≠ x := fun e => nd.1 (e ▸ hy)
      simp [this]
    · have hm : s ∈ l := by simpa [Ne.symm q] using h
      have h1 : p x = true := by rw [hp x (by simp)]; simp [q]
      have hi : (x :: l).idxOf s = l.idxOf s + 1 := by
        rw [List.idxOf_cons]; have : (x == s) = false := by simpa using q
        rw [this]; rfl
      simp only [List.filter_cons, h1, if_true, hi, List.eraseIdx_cons_succ]
      rw [filter_erase nd.2 hm fun y hy => hp y (by simp [hy])]
theorem Fd_step (pr : Pl → List Pl) {f s : Pl} {D F : List Pl} (nd : F.Nodup) (hD : s ∉ D) :
    Fd pr f (D ++ [s]) F = if ((pr s).filter fun y => !decide (y = f)).isEmpty = true ∧ s ∈ Fd pr f D F then (Fd pr f D F).eraseIdx ((Fd pr f D F).idxOf s) else Fd pr f D F := by
  have nd' : (Fd pr f D F).Nodup := nd.filter _
  have e : Fd pr f (D ++ [s]) F = (Fd pr f D F).filter fun x => !(decide (x = s) && ((pr x).filter fun y => !decide (y = f)).isEmpty) := by
    simp only [Fd, List.filter_filter]
    apply List.filter_congr
    intro x hx
    by_cases h1 : x = s
    · subst h1; simp [hD]
    · simp [h1]
  rw [e]
  split
  · rename_i h
    refine filter_erase nd' h.2 fun x hx => ?_
    by_cases q : x = s
    · subst q; simp [h.1]
    · simp [q]
  · rename_i h
    refine filter_id fun x hx => ?_
    by_cases q : x = s
    · subst q
      have : ((pr x).filter fun y => !decide (y = f)).isEmpty = false := by
        cases z : ((pr x).filter fun y => !decide (y = f)).isEmpty with
        | false => rfl
        | true => exact absurd ⟨z, hx⟩ h
      simp [this]
    · simp [q]
theorem upd_upd {α : Type} (f : Pl → α) (i : Pl) (v w : α) : upd (upd f i v) i w = upd f i w := by
  funext j; simp only [upd]; split <;> rfl
section
variable {c : KB} {k : Nat} {ps : List Pl} {L pr : Pl → List Pl} {mt : Pl → Option Pl} {a : Addr}
def fVs (ps F : List Pl) (x2 x3 x4 x5 x6 : Option Bind) : List (Option Bind) := [some (.val (.list (ps.map ob))), some (.lst (F.map ob)), x2, x3, x4, x5, x6]
def whileBody : Stmt → List Stmt
  | .While _ b _ _ => b
  | _ => []
def whileTest : Stmt → Expr
  | .While t _ _ _ => t
  | _ => .Constant .none 0 ⟨0, 0, 0, 0⟩
def ffInv (ps : List Pl) (L pr : Pl → List Pl) (mt : Pl → Option Pl) (F : List Pl) (p f : Pl) (x2 x4 x6 : Option Bind) (D : List Pl) (σ : St) : Prop :=
  ∃ x5, σ = ⟨fVs ps (Fd pr f D F) x2 (some (.val (ob f))) x4 x5 x6, plOf ps L (prd pr f D) mt⟩
theorem first_for (M : Meths c) {aD : Addr} (hD : FnOk c aD S_delete) (gD : c.mg "_delete_pair" = some (.ref aD)) (hk : k + 4 ≤ 150) (ok : PsOk ps) {F : List Pl} {p f : Pl} {x2 x4 x5 x6 : Option Bind}
    (hf : f ∈ ps) (hmt : mt f = some p) (hp : p ∈ pr f) (hl : ∀ m, (pr m).length ≤ 1000) (hmem : ∀ x y, y ∈ pr x → y ∈ ps) (hnd : (pr f).Nodup) (hff : f ∉ pr f) (hF : F.Nodup) :
    ∃ x5', TrS c (k + 1) (fdScope S_first) ⟨fVs ps F x2 (some (.val (ob f))) x4 x5 x6, plOf ps L pr mt⟩ (nthS 5 (whileBody (nthS 1 (fdBody S_first)))) .next
      ⟨fVs ps (Fd pr f (sucs pr f p) F) x2 (some (.val (ob f))) x4 x5' x6, plOf ps L (prd pr f (sucs pr f p)) mt⟩ := by
  have hsub : ∀ s ∈ sucs pr f p, s ∈ pr f := fun s hs => List.mem_of_mem_drop hs
  have hsn : (sucs pr f p).Nodup := hnd.sublist (List.drop_sublist ..)
  have key : ∃ σ', TrS c (k + 1) (fdScope S_first) ⟨fVs ps F x2 (some (.val (ob f))) x4 x5 x6, plOf ps L pr mt⟩ (nthS 5 (whileBody (nthS 1 (fdBody S_first)))) .next σ' ∧ ffInv ps L pr mt F p f x2 x4 x6 (sucs pr f p) σ' := by
    refine tr_for_inv (f := ob) (ffInv ps L pr mt F p f x2 x4 x6) (l := sucs pr f p)
      (tr_meth (i := f.val) (tr_name (by rfl) (by rfl)) (plOf_get ok hf) M.m_succ (by rfl) (fun _ => rfl) tra_nil (succ_spec M.f_succ (by omega) ok hf hmt hp (hl f)) (fun _ => rfl) (by simp) rfl) rfl ⟨x5, by rw [Fd_nil, prd_nil]⟩ ?_ (fun _ _ => rfl)
    rintro s D r σ hr ⟨x5, rfl⟩
    have hsS : s ∈ sucs pr f p := by rw [hr]; simp
    have hsp := hmem f s (hsub s hsS)
    have hsf : s ≠ f := fun e => hff (e ▸ hsub s hsS)
    have hsD : s ∉ D := by
      rw [hr, List.nodup_append] at hsn
      exact fun h => hsn.2.2 s h s (by simp) rfl
    have hlen : ∀ m, (prd pr f D m).length ≤ 1000 := fun m => by
      refine Nat.le_trans ?_ (hl m)
      unfold prd
      split
      · rename_i h; subst h; exact List.length_filter_le ..
      · split
        · exact List.length_filter_le ..
        · exact Nat.le_refl _
    have hemp : prd pr f (D ++ [s]) s = (pr s).filter fun y => !decide (y = f) := by simp [prd, hsf]
    refine ⟨⟨fVs ps (Fd pr f D F) x2 (some (.val (ob f))) x4 (some (.val (ob s))) x6, plOf ps L (prd pr f D) mt⟩, .next, _, (tra_name (by rfl) (by rfl)).to, ?_, .inl rfl, some (.val (ob s)), rfl⟩
    refine trs_cons ((tr_expr' (tr_call (by rfl) gD hD.isFn (fun _ => rfl) (tra_cons (fun _ => rfl) (tr_name (i := 5) (p := ob s) (by rfl) (by rfl)) (tra_cons (fun _ => rfl) (tr_name (i := 3) (p := ob f) (by rfl) (by rfl)) tra_nil)) (delete_spec M hD (by omega) ok hsp hf hlen)) (fun _ => rfl)).to
      (σ'' := ⟨fVs ps (Fd pr f D F) x2 (some (.val (ob f))) x4 (some (.val (ob s))) x6, plOf ps L (prd pr f (D ++ [s])) mt⟩) (by rw [prd_step pr hsf hsD])) ?_
    refine trs_cons (tr_if (b := ((pr s).filter fun y => !decide (y = f)).isEmpty && decide (s ∈ Fd pr f D F)) (σ₁ := ⟨fVs ps (Fd pr f D F) x2 (some (.val (ob f))) x4 (some (.val (ob s))) x6, plOf ps L (prd pr f (D ++ [s])) mt⟩) ?_ (fun hb => ?_) (fun hb => ?_)) trs_nil
    · refine trt_and (trt_not (trt_list (xs := (prd pr f (D ++ [s]) s).map ob) (tr_attr (i := s.val) (tr_name (by rfl) (by rfl)) (plOf_get ok hsp) (by decide +kernel) (by rfl) (fun _ => rfl)).toV (fun _ _ => rfl)) |>.to ?_) (fun _ => ?_)
      · rw [hemp]; simp [List.isEmpty_map]
      · exact trt_cmp (tr_name (by rfl) (by rfl)) (trv_own (by rfl) (by rfl)) (cmp_in_list eqOb (by decide) (by intro xs q; cases q)) rfl
    · simp only [Bool.and_eq_true, decide_eq_true_eq] at hb
      refine trs_cons ((tr_expr' (tr_remove eqOb (by decide) (l := Fd pr f D F) (a := s) (by rfl) (by rfl) (fun _ => rfl) (tr_name (i := 5) (by rfl) (by rfl)) (by rfl) hb.2 rfl) (fun _ => rfl)).to ?_) trs_nil
      rw [Fd_step pr hF hsD, if_pos hb]; rfl
    · simp only [Bool.and_eq_false_iff, decide_eq_false_iff_not] at hb
      refine trs_nil.to ?_
      rw [Fd_step pr hF hsD, if_neg]
      rintro ⟨h1, h2⟩
      rcases hb with h | h
      · rw [h1] at h; cases h
      · exact h h2
  obtain ⟨σ', h1, x5', rfl⟩ := key
  exact ⟨x5', h1⟩
end
end RM
end
noncomputable section
namespace RM
section
variable {c : KB} {k : Nat} {ps : List Pl} {L pr : Pl → List Pl} {mt : Pl → Option Pl} {a : Addr}
def addCur (F : List Pl) : Option Pl → List Pl
  | none => F
  | some q => F ++ [q]
structure PTurn (ps : List Pl) (F : List Pl) (pr : Pl → List Pl) (mt : Pl → Option Pl) (p f : Pl) : Prop where
  ip : p ∈ ps
  if' : f ∈ ps
  hd : (pr p).head? = some f
  hp : p ∈ pr f
  hl : ∀ m, (pr m).length ≤ 1000
  hmem : ∀ x y, y ∈ pr x → y ∈ ps
  hnd : (pr f).Nodup
  hff : f ∉ pr f
  hF : (addCur F (mt f)).Nodup
  hFl : F.length ≤ 1000
theorem first_turn (M : Meths c) {aD : Addr} (hD : FnOk c aD S_delete) (gD : c.mg "_delete_pair" = some (.ref aD)) (hk : k + 4 ≤ 150) (ok : PsOk ps) {F : List Pl} {p f : Pl} {x2 x3 x4 x5 x6 : Option Bind} (T : PTurn ps F pr mt p f) :
    ∃ y2 y3 y4 y5, TrSs c (k + 1) (fdScope S_first) ⟨fVs ps (F ++ [p]) x2 x3 x4 x5 x6, plOf ps L pr mt⟩ (whileBody (nthS 1 (fdBody S_first))) .next
      ⟨fVs ps (Fd pr f (sucs pr f p) (addCur F (mt f))) y2 y3 y4 y5 x6, plOf ps L (prd pr f (sucs pr f p)) (upd mt f (some p))⟩ := by
  obtain ⟨r, hr⟩ : ∃ r, pr p = f :: r := by
    have := T.hd
    cases e : pr p with
    | nil => rw [e] at this; cases this
    | cons y r => rw [e] at this; cases this; exact ⟨r, rfl⟩
  obtain ⟨y5, hfor⟩ := first_for (c := c) (k := k) (L := L) (F := addCur F (mt f)) (mt := upd mt f (some p)) (x2 := some (.val (ob p))) (x4 := some (.val (mtV (mt f)))) (x5 := x5) (x6 := x6) M hD gD hk ok T.if' (upd_self ..) T.hp T.hl T.hmem T.hnd T.hff T.hF
  refine ⟨some (.val (ob p)), some (.val (ob f)), some (.val (mtV (mt f))), y5, ?_⟩
  have mid : ∀ {mt2 : Pl → Option Pl}, upd mt2 f (some p) = upd mt f (some p) → TrSs c (k + 1) (fdScope S_first) ⟨fVs ps (addCur F (mt f)) (some (.val (ob p))) (some (.val (ob f))) (some (.val (mtV (mt f)))) x5 x6, plOf ps L pr mt2⟩ ((whileBody (nthS 1 (fdBody S_first))).drop 4) .next
      ⟨fVs ps (Fd pr f (sucs pr f p) (addCur F (mt f))) (some (.val (ob p))) (some (.val (ob f))) (some (.val (mtV (mt f)))) y5 x6, plOf ps L (prd pr f (sucs pr f p)) (upd mt f (some p))⟩ := by
    intro mt2 he
    refine trs_cons ((tr_expr' (tr_meth (i := f.val) (tr_name (by rfl) (by rfl)) (plOf_get ok T.if') M.m_mat (by rfl) (fun _ => rfl) (args1 (fun _ => rfl) (tr_name (i := 2) (p := ob p) (by rfl) (by rfl))) (match_spec M.f_mat (by omega) ok T.if') (fun _ => rfl) (by simp) rfl) (fun _ => rfl)).to (σ'' := ⟨fVs ps (addCur F (mt f)) (some (.val (ob p))) (some (.val (ob f))) (some (.val (mtV (mt f)))) x5 x6, plOf ps L pr (upd mt f (some p))⟩) (by rw [he])) ?_
    exact trs_cons hfor trs_nil
  refine trs_cons ((tr_assign (tr_pop (xs := F.map ob) (p := ob p) (by rfl) (by simp [fVs]) rfl) (by rfl) (by rfl) (fun _ => rfl)).to (σ'' := ⟨fVs ps F (some (.val (ob p))) x3 x4 x5 x6, plOf ps L pr mt⟩) rfl) ?_
  refine trs_cons ((tr_assign (tr_meth (i := p.val) (tr_name (by rfl) (by rfl)) (plOf_get ok T.ip) M.m_fav (by rfl) (fun _ => rfl) tra_nil (fav_spec M.f_fav (by omega) ok T.ip hr) (fun _ => rfl) (by simp) rfl) (by rfl) (by rfl) (fun _ => rfl)).to (σ'' := ⟨fVs ps F (some (.val (ob p))) (some (.val (ob f))) x4 x5 x6, plOf ps L pr mt⟩) rfl) ?_
  refine trs_cons ((tr_assign (tr_attr (i := f.val) (p := mtV (mt f)) (tr_name (by rfl) (by rfl)) (plOf_get ok T.if') (by decide +kernel) (by rfl) (fun _ => rfl)) (by rfl) (by rfl) (fun _ => rfl)).to (σ'' := ⟨fVs ps F (some (.val (ob p))) (some (.val (ob f))) (some (.val (mtV (mt f)))) x5 x6, plOf ps L pr mt⟩) rfl) ?_
  cases hm : mt f with
  | none =>
    rw [hm] at mid
    refine trs_cons (tr_if (b := false) (trt_cmp (tr_name (by rfl) (by rfl)) tr_none.toV cmp_isnot_none rfl) (fun h => by cases h) (fun _ => trs_nil)) ?_
    exact mid rfl
  | some q =>
    rw [hm] at mid
    refine trs_cons (tr_if (b := true) (σ₂ := ⟨fVs ps (addCur F (some q)) (some (.val (ob p))) (some (.val (ob f))) (some (.val (mtV (some q)))) x5 x6, plOf ps L pr (upd mt f none)⟩) (trt_cmp (tr_name (i := 4) (p := .obj q.val) (by rfl) (by rfl)) tr_none.toV cmp_isnot_obj rfl) (fun _ => ?_) (fun h => by cases h)) ?_
    · refine trs_cons ((tr_expr' (tr_meth (i := f.val) (tr_name (by rfl) (by rfl)) (plOf_get ok T.if') M.m_unm (by rfl) (fun _ => rfl) tra_nil (unmatch_spec M.f_unm (by omega) ok T.if') (fun _ => rfl) (by simp) rfl) (fun _ => rfl)).to (σ'' := ⟨fVs ps F (some (.val (ob p))) (some (.val (ob f))) (some (.val (mtV (some q)))) x5 x6, plOf ps L pr (upd mt f none)⟩) rfl) ?_
      refine trs_cons ((tr_expr' (tr_append (xs := F.map ob) (by rfl) (by rfl) (fun _ => rfl) (tr_name (i := 4) (p := ob q) (by rfl) (by rfl)) (by rfl) rfl (by rw [List.length_map, sizeLine_eq]; have := T.hFl; omega)) (fun _ => rfl)).to ?_) trs_nil
      simp [fVs, addCur, St.set]
    · exact mid (upd_upd ..)
end
end RM
end
noncomputable section
namespace RM
inductive P1Run (ps : List Pl) : List Pl → (Pl → List Pl) → (Pl → Option Pl) → (Pl → List Pl) → (Pl → Option Pl) → Prop
  | stop {pr : Pl → List Pl} {mt : Pl → Option Pl} : P1Run ps [] pr mt pr mt
  | step {F : List Pl} {pr pr' : Pl → List Pl} {mt mt' : Pl → Option Pl} {p f : Pl} : PTurn ps F pr mt p f →
      P1Run ps (Fd pr f (sucs pr f p) (addCur F (mt f))) (prd pr f (sucs pr f p)) (upd mt f (some p)) pr' mt' → P1Run ps (F ++ [p]) pr mt pr' mt'
section
variable {c : KB} {k : Nat} {ps : List Pl} {L pr pr' : Pl → List Pl} {mt mt' : Pl → Option Pl} {a : Addr}
theorem first_while (M : Meths c) {aD : Addr} (hD : FnOk c aD S_delete) (gD : c.mg "_delete_pair" = some (.ref aD)) (hk : k + 4 ≤ 150) (ok : PsOk ps) {F : List Pl} (h : P1Run ps F pr mt pr' mt') :
    ∀ x2 x3 x4 x5 x6, ∃ n y2 y3 y4 y5, WhileRun c (k + 1) (fdScope S_first) (whileTest (nthS 1 (fdBody S_first))) (whileBody (nthS 1 (fdBody S_first))) n ⟨fVs ps F x2 x3 x4 x5 x6, plOf ps L pr mt⟩ .next ⟨fVs ps [] y2 y3 y4 y5 x6, plOf ps L pr' mt'⟩ := by
  induction h with
  | stop =>
    intro x2 x3 x4 x5 x6
    exact ⟨0, x2, x3, x4, x5, .stop (trt_list (xs := []) (trv_own (by rfl) (by rfl)) (fun _ _ => rfl))⟩
  | step T h ih =>
    rename_i F _ _ _ _ p f
    intro x2 x3 x4 x5 x6
    obtain ⟨z2, z3, z4, z5, ht⟩ := first_turn (L := L) (x2 := x2) (x3 := x3) (x4 := x4) (x5 := x5) (x6 := x6) M hD gD hk ok T
    obtain ⟨n, y2, y3, y4, y5, hw⟩ := ih z2 z3 z4 z5 x6
    refine ⟨n + 1, y2, y3, y4, y5, .turn ((trt_list (xs := (F ++ [p]).map ob) (trv_own (by rfl) (by rfl)) (fun _ _ => rfl)).to ?_) ht hw⟩
    simp
theorem first_spec (M : Meths c) {aD : Addr} (hD : FnOk c aD S_delete) (gD : c.mg "_delete_pair" = some (.ref aD)) (hf : FnOk c a S_first) (hk : k + 4 ≤ 150) (ok : PsOk ps) (h : P1Run ps ps pr mt pr' mt') :
    FnSpec c k a [.list (ps.map ob)] (plOf ps L pr mt) (.list (ps.map ob)) (plOf ps L pr' mt') := by
  obtain ⟨n, y2, y3, y4, y5, hw⟩ := first_while (L := L) M hD gD hk ok h none none none none none
  refine fn_intro (σ' := ⟨fVs ps [] y2 y3 y4 y5 none, plOf ps L pr' mt'⟩) hf rfl (by decide +kernel) (by decide +kernel) (by omega) (fl := .ret _) ?_ (.inl rfl)
  have hvs : initVs (fdScope S_first) (fdNames S_first) [.list (ps.map ob)] = [some (.val (.list (ps.map ob))), none, none, none, none, none, none] := by rfl
  rw [hvs]
  refine trs_cons ((tr_assignN (tr_slice (nl := none) (nh := none) (tr_name (by rfl) (by rfl)) part_none part_none (.inl rfl)) (by rfl) (by rfl) (fun _ => rfl)).to (σ'' := ⟨fVs ps ps none none none none none, plOf ps L pr mt⟩) rfl) ?_
  refine trs_cons (tr_while hw) ?_
  exact trs_stop (tr_return (tr_name (by rfl) (by rfl))) (by simp)
end
end RM
end
noncomputable section
namespace RM
def bodyOf : Stmt → List Stmt
  | .While _ b _ _ => b
  | .For _ _ b _ _ => b
  | _ => []
inductive LocRun (ps : List Pl) (pr : Pl → List Pl) : List Pl → List Pl → Pl → List Pl → List Pl → Pl → Prop
  | stop {ls ss : List Pl} {p x s w : Pl} {r : List Pl} : p ∈ ps → s ∈ ps → pr p = x :: s :: r → (pr s).getLast? = some w → ls.length ≤ 100 → ss.length ≤ 100 → 1 < (ls ++ [w]).count w → LocRun ps pr ls ss p (ls ++ [w]) (ss ++ [s]) w
  | step {ls ss ls' ss' : List Pl} {p x s w p' : Pl} {r : List Pl} : p ∈ ps → s ∈ ps → pr p = x :: s :: r → (pr s).getLast? = some w → ls.length ≤ 100 → ss.length ≤ 100 → ¬ 1 < (ls ++ [w]).count w → LocRun ps pr (ls ++ [w]) (ss ++ [s]) w ls' ss' p' → LocRun ps pr ls ss p ls' ss' p'
def prV (p : Pl × Pl) : PV := .tup [ob p.1, ob p.2]
def lVs (p : Option Bind) (ls ss : List Pl) (x3 x4 x5 x6 : Option Bind) : List (Option Bind) := [p, some (.lst (ls.map ob)), some (.lst (ss.map ob)), x3, x4, x5, x6, none, none]
section
variable {c : KB} {k : Nat} {ps : List Pl} {L pr : Pl → List Pl} {mt : Pl → Option Pl} {a : Addr}
theorem loc_turn (ok : PsOk ps) {ls ss : List Pl} {p x s w : Pl} {r : List Pl} (hp : p ∈ ps) (hs : s ∈ ps) (h1 : pr p = x :: s :: r) (h2 : (pr s).getLast? = some w) (hl : ls.length ≤ 100) (hss : ss.length ≤ 100) {x3 x4 x5 x6 : Option Bind} :
    TrSs c k (fdScope S_locate) ⟨lVs (some (.val (ob p))) ls ss x3 x4 x5 x6, plOf ps L pr mt⟩ (bodyOf (nthS 2 (fdBody S_locate))) (if 1 < (ls ++ [w]).count w then .brk else .next)
      ⟨lVs (some (.val (ob w))) (ls ++ [w]) (ss ++ [s]) (some (.val (ob s))) (some (.val (ob w))) x5 x6, plOf ps L pr mt⟩ := by
  refine trs_cons ((tr_assign (tr_item (j := 1) (p := ob s) (tr_attr (i := p.val) (tr_name (by rfl) (by rfl)) (plOf_get ok hp) (by decide +kernel) (by rfl) (fun _ => rfl)) tr_int (by simp [h1]) (fun _ _ _ => rfl)) (by rfl) (by rfl) (fun _ => rfl)).to (σ'' := ⟨lVs (some (.val (ob p))) ls ss (some (.val (ob s))) x4 x5 x6, plOf ps L pr mt⟩) rfl) ?_
  refine trs_cons ((tr_assign (tr_item_last (p := ob w) (tr_attr (i := s.val) (tr_name (by rfl) (by rfl)) (plOf_get ok hs) (by decide +kernel) (by rfl) (fun _ => rfl)) (tr_neg tr_int) (by simp [h2]) (fun _ _ _ => rfl)) (by rfl) (by rfl) (fun _ => rfl)).to (σ'' := ⟨lVs (some (.val (ob p))) ls ss (some (.val (ob s))) (some (.val (ob w))) x5 x6, plOf ps L pr mt⟩) rfl) ?_
  refine trs_cons ((tr_expr' (tr_append (xs := ss.map ob) (by rfl) (by rfl) (fun _ => rfl) (tr_name (i := 3) (p := ob s) (by rfl) (by rfl)) (by rfl) rfl (by rw [List.length_map, sizeLine_eq]; omega)) (fun _ => rfl)).to (σ'' := ⟨lVs (some (.val (ob p))) ls (ss ++ [s]) (some (.val (ob s))) (some (.val (ob w))) x5 x6, plOf ps L pr mt⟩) (by simp [lVs, St.set])) ?_
  refine trs_cons ((tr_expr' (tr_append (xs := ls.map ob) (by rfl) (by rfl) (fun _ => rfl) (tr_name (i := 4) (p := ob w) (by rfl) (by rfl)) (by rfl) rfl (by rw [List.length_map, sizeLine_eq]; omega)) (fun _ => rfl)).to (σ'' := ⟨lVs (some (.val (ob p))) (ls ++ [w]) (ss ++ [s]) (some (.val (ob s))) (some (.val (ob w))) x5 x6, plOf ps L pr mt⟩) (by simp [lVs, St.set])) ?_
  refine trs_cons ((tr_assign (tr_name (i := 4) (p := ob w) (by rfl) (by rfl)) (by rfl) (by rfl) (fun _ => rfl)).to (σ'' := ⟨lVs (some (.val (ob w))) (ls ++ [w]) (ss ++ [s]) (some (.val (ob s))) (some (.val (ob w))) x5 x6, plOf ps L pr mt⟩) rfl) ?_
  by_cases h : 1 < (ls ++ [w]).count w
  · rw [if_pos h]
    exact trs_stop (tr_if (b := true) ((trt_cmp (tr_countOwn eqOb (by decide) (l := ls ++ [w]) (a := w) (by rfl) (by rfl) (fun _ => rfl) (tr_name (i := 0) (by rfl) (by rfl)) (by rfl) rfl) tr_int.toV cmp_gt_int rfl).to (by simp only [decide_eq_true_eq]; omega)) (fun _ => trs_stop tr_break (by simp)) (fun q => by cases q)) (by simp)
  · rw [if_neg h]
    exact trs_cons (tr_if (b := false) ((trt_cmp (tr_countOwn eqOb (by decide) (l := ls ++ [w]) (a := w) (by rfl) (by rfl) (fun _ => rfl) (tr_name (i := 0) (by rfl) (by rfl)) (by rfl) rfl) tr_int.toV cmp_gt_int rfl).to (by simp only [decide_eq_false_iff_not]; omega)) (fun q => by cases q) (fun _ => trs_nil)) trs_nil
theorem loc_while (ok : PsOk ps) {ls ss ls' ss' : List Pl} {p p' : Pl} (h : LocRun ps pr ls ss p ls' ss' p') : ∀ {x3 x4 x5 x6 : Option Bind}, ∃ n y3 y4,
    WhileRun c k (fdScope S_locate) (whileTest (nthS 2 (fdBody S_locate))) (bodyOf (nthS 2 (fdBody S_locate))) n ⟨lVs (some (.val (ob p))) ls ss x3 x4 x5 x6, plOf ps L pr mt⟩ .next ⟨lVs (some (.val (ob p'))) ls' ss' y3 y4 x5 x6, plOf ps L pr mt⟩ := by
  induction h with
  | stop hp hs h1 h2 hl hss hc =>
    intro x3 x4 x5 x6
    have := loc_turn (c := c) (k := k) (L := L) (mt := mt) (x3 := x3) (x4 := x4) (x5 := x5) (x6 := x6) ok hp hs h1 h2 hl hss
    rw [if_pos hc] at this
    exact ⟨0, _, _, .brk (trt_bool tr_bool (fun _ _ => rfl)) this⟩
  | step hp hs h1 h2 hl hss hc _ ih =>
    intro x3 x4 x5 x6
    have := loc_turn (c := c) (k := k) (L := L) (mt := mt) (x3 := x3) (x4 := x4) (x5 := x5) (x6 := x6) ok hp hs h1 h2 hl hss
    rw [if_neg hc] at this
    obtain ⟨n, y3, y4, hw⟩ := ih
    exact ⟨n + 1, y3, y4, .turn (trt_bool tr_bool (fun _ _ => rfl)) this hw⟩
theorem LocRun.mem {ls ss ls' ss' : List Pl} {p p' : Pl} (h : LocRun ps pr ls ss p ls' ss' p') : 1 < ls'.count p' ∧ ls'.getLast? = some p' ∧ (ls.length = ss.length + 1 → ls'.length = ss'.length + 1) := by
  induction h with
  | stop hp hs h1 h2 hl hss hc => exact ⟨hc, by simp, fun h => by simp [h]⟩
  | step hp hs h1 h2 hl hss hc _ ih => exact ⟨ih.1, ih.2.1, fun h => ih.2.2 (by simp [h])⟩
theorem idx_lt_of_count {ls : List Pl} {p : Pl} (h : 1 < ls.count p) : ls.idxOf p + 1 < ls.length := by
  induction ls with
  | nil => simp at h
  | cons x ls ih =>
    by_cases q : x = p
    · subst q
      simp only [List.count_cons_self] at h
      simp only [List.idxOf_cons_self, List.length_cons]
      have : 0 < ls.length := by
        cases ls with
        | nil => simp at h
        | cons y l => simp
      omega
    · have hc : (x :: ls).count p = ls.count p := by simp [List.count_cons, q]
      rw [hc] at h
      have := ih h
      have hi : (x :: ls).idxOf p = ls.idxOf p + 1 := by
        rw [List.idxOf_cons]; have : (x == p) = false := by simpa using q
        rw [this]; rfl
      rw [hi, List.length_cons]; omega
theorem loc_spec (nl : c.mg "list" = none) (nz : c.mg "zip" = none) (hf : FnOk c a S_locate) (hk : k + 1 ≤ 150) (ok : PsOk ps) {ls ss : List Pl} {p w : Pl} (h : LocRun ps pr [p] [] p ls ss w) :
    FnSpec c k a [ob p] (plOf ps L pr mt) (.list (((ls.drop (ls.idxOf w + 1)).zip (ss.drop (ls.idxOf w))).map prV)) (plOf ps L pr mt) := by
  obtain ⟨hc, hlast, hlen⟩ := h.mem
  have hlen := hlen rfl
  have hidx := idx_lt_of_count hc
  have hw : w ∈ ls := List.mem_of_getLast? hlast
  obtain ⟨n, y3, y4, hwr⟩ := loc_while (c := c) (k := k + 1) (L := L) (mt := mt) ok h (x3 := none) (x4 := none) (x5 := none) (x6 := none)
  refine fn_intro (σ' := ⟨lVs (some (.val (ob w))) ls ss y3 y4 (some (.val (.int (ls.idxOf w)))) (some (.val (.list (((ls.drop (ls.idxOf w + 1)).zip (ss.drop (ls.idxOf w))).map prV)))), plOf ps L pr mt⟩) hf rfl (by decide +kernel) (by decide +kernel) hk (fl := .ret _) ?_ (.inl rfl)
  have hvs : initVs (fdScope S_locate) (fdNames S_locate) [ob p] = [some (.val (ob p)), none, none, none, none, none, none, none, none] := by rfl
  rw [hvs]
  refine trs_cons ((tr_assignN (tr_list (ps := [ob p]) (tra_cons (fun _ => rfl) (tr_name (i := 0) (p := ob p) (by rfl) (by rfl)) tra_nil) (by simp)) (by rfl) (by rfl) (fun _ => rfl)).to (σ'' := ⟨[some (.val (ob p)), some (.lst [ob p]), none, none, none, none, none, none, none], plOf ps L pr mt⟩) rfl) ?_
  refine trs_cons ((tr_assignN (tr_list (ps := []) tra_nil (by simp)) (by rfl) (by rfl) (fun _ => rfl)).to (σ'' := ⟨lVs (some (.val (ob p))) [p] [] none none none none, plOf ps L pr mt⟩) rfl) ?_
  refine trs_cons (tr_while hwr) ?_
  refine trs_cons ((tr_assign (tr_indexOwn eqOb (by decide) (l := ls) (a := w) (by rfl) (by rfl) (fun _ => rfl) (tr_name (i := 0) (by rfl) (by rfl)) (by rfl) hw rfl) (by rfl) (by rfl) (fun _ => rfl)).to (σ'' := ⟨lVs (some (.val (ob w))) ls ss y3 y4 (some (.val (.int (ls.idxOf w)))) none, plOf ps L pr mt⟩) rfl) ?_
  refine trs_cons ((tr_assign (tr_list_zip (xs := (ls.drop (ls.idxOf w + 1)).map ob) (ys := (ss.drop (ls.idxOf w)).map ob) (by rfl) nl (by rfl) nz (fun _ => rfl) (fun _ => rfl)
    (tra_cons (fun _ => rfl) ((tr_slice_own (nl := some (ls.idxOf w + 1)) (nh := none) (xs := ls.map ob) (by rfl) (by rfl) (part_some (tr_add (tr_name (i := 5) (by rfl) (by rfl)) tr_int) (by push_cast; rfl)) part_none (.inr rfl)).toE.to (by simp [sliceOf, List.map_drop]))
      (tra_cons (fun _ => rfl) ((tr_slice_own (nl := some (ls.idxOf w)) (nh := none) (xs := ss.map ob) (by rfl) (by rfl) (part_some (tr_name (i := 5) (by rfl) (by rfl)) rfl) part_none (.inr rfl)).toE.to (by simp [sliceOf, List.map_drop])) tra_nil))
    (by simp; omega) (by simp; omega)) (by rfl) (by rfl) (fun _ => rfl)).to (σ'' := ⟨lVs (some (.val (ob w))) ls ss y3 y4 (some (.val (.int (ls.idxOf w)))) (some (.val (.list (((ls.drop (ls.idxOf w + 1)).zip (ss.drop (ls.idxOf w))).map prV)))), plOf ps L pr mt⟩) ?_) ?_
  · have : (((ls.drop (ls.idxOf w + 1)).map ob).zip ((ss.drop (ls.idxOf w)).map ob)).map (fun p => PV.tup [p.1, p.2]) = ((ls.drop (ls.idxOf w + 1)).zip (ss.drop (ls.idxOf w))).map prV := by
      rw [List.zip_map, List.map_map]; rfl
    rw [this]; rfl
  · exact trs_stop (tr_return (tr_name (i := 6) (by rfl) (by rfl))) (by simp)
end
end RM
end
noncomputable section
namespace RM
def addP (r : Pl) (acc : List (Pl × Pl)) (s : Pl) : List (Pl × Pl) := if (r, s) ∉ acc ∧ (s, r) ∉ acc then acc ++ [(r, s)] else acc
def prevL (cyc : List (Pl × Pl)) (i : Nat) : Pl := (cyc.getD ((((i : Int) - 1).fmod (cyc.length : Int)).toNat) (0, 0)).1
def behind (pr : Pl → List Pl) (cyc : List (Pl × Pl)) (i : Nat) : List Pl := (pr (cyc.getD i (0, 0)).2).drop ((pr (cyc.getD i (0, 0)).2).idxOf (prevL cyc i) + 1)
def pairsUp (pr : Pl → List Pl) (cyc : List (Pl × Pl)) : Nat → List (Pl × Pl)
  | 0 => []
  | i + 1 => (behind pr cyc i).foldl (addP (cyc.getD i (0, 0)).2) (pairsUp pr cyc i)
theorem eqPr {c : KB} : EqEmb c 2 prV := eqEmb_pair eqOb
theorem addP_len (r : Pl) (acc : List (Pl × Pl)) (s : Pl) : (addP r acc s).length ≤ acc.length + 1 := by unfold addP; split <;> simp
theorem foldl_addP_len (r : Pl) : ∀ (l : List Pl) (acc : List (Pl × Pl)), (l.foldl (addP r) acc).length ≤ acc.length + l.length
  | [], acc => by simp
  | s :: l, acc => by
    have := foldl_addP_len r l (addP r acc s)
    have := addP_len r acc s
    simp only [List.foldl_cons, List.length_cons]; omega
section
variable {c : KB} {k : Nat} {ps : List Pl} {L pr : Pl → List Pl} {mt : Pl → Option Pl} {a : Addr}
structure CycOk (ps : List Pl) (pr : Pl → List Pl) (cyc : List (Pl × Pl)) : Prop where
  mem : ∀ p ∈ cyc, p.1 ∈ ps ∧ p.2 ∈ ps
  prev : ∀ i, i < cyc.length → prevL cyc i ∈ pr (cyc.getD i (0, 0)).2
  len : cyc.length ≤ 100
  lens : ∀ m, (pr m).length ≤ 100
def gVs (cyc : List (Pl × Pl)) (acc : List (Pl × Pl)) (x2 x3 x4 x5 x6 x7 x8 : Option Bind) : List (Option Bind) := [some (.val (.list (cyc.map prV))), some (.lst (acc.map prV)), x2, x3, x4, x5, x6, x7, x8, none, none]
def gpIn (ps : List Pl) (L pr : Pl → List Pl) (mt : Pl → Option Pl) (cyc : List (Pl × Pl)) (x2 x3 x5 x6 : Option Bind) (r : Pl) (acc0 : List (Pl × Pl)) (D : List Pl) (σ : St) : Prop :=
  ∃ x7 x8, σ = ⟨gVs cyc (D.foldl (addP r) acc0) x2 x3 (some (.val (ob r))) x5 x6 x7 x8, plOf ps L pr mt⟩
def gpOut (ps : List Pl) (L pr : Pl → List Pl) (mt : Pl → Option Pl) (cyc : List (Pl × Pl)) (i : Nat) (σ : St) : Prop :=
  ∃ x2 x3 x4 x5 x6 x7 x8, σ = ⟨gVs cyc (pairsUp pr cyc i) x2 x3 x4 x5 x6 x7 x8, plOf ps L pr mt⟩
theorem gp_inner {cyc : List (Pl × Pl)} {r : Pl} {S : List Pl} {acc0 : List (Pl × Pl)} (hacc : acc0.length + S.length ≤ 20000) {x2 x3 x5 x7 x8 : Option Bind} :
    ∃ σ', TrS c k (fdScope S_pairs) ⟨gVs cyc acc0 x2 x3 (some (.val (ob r))) x5 (some (.val (.list (S.map ob)))) x7 x8, plOf ps L pr mt⟩ (nthS 2 (bodyOf (nthS 1 (fdBody S_pairs)))) .next σ' ∧ gpIn ps L pr mt cyc x2 x3 x5 (some (.val (.list (S.map ob)))) r acc0 S σ' := by
  refine tr_for_inv (f := ob) (gpIn ps L pr mt cyc x2 x3 x5 (some (.val (.list (S.map ob)))) r acc0) (tr_name (by rfl) (by rfl)) rfl ⟨x7, x8, rfl⟩ ?_ (fun _ _ => rfl)
  rintro s D rest σ hS ⟨x7, x8, rfl⟩
  have hlen := foldl_addP_len r D acc0
  have hSl : D.length ≤ S.length := by rw [hS]; simp
  generalize hac : D.foldl (addP r) acc0 = acc at hlen
  refine ⟨⟨gVs cyc acc x2 x3 (some (.val (ob r))) x5 (some (.val (.list (S.map ob)))) (some (.val (ob s))) x8, plOf ps L pr mt⟩, .next, _, (tra_name (by rfl) (by rfl)).to, ?_, .inl rfl, some (.val (ob s)), some (.val (prV (r, s))), rfl⟩
  refine trs_cons ((tr_assign (tr_tuple (ps := [ob r, ob s]) (tra_cons (fun _ => rfl) (tr_name (i := 4) (p := ob r) (by rfl) (by rfl)) (tra_cons (fun _ => rfl) (tr_name (i := 7) (p := ob s) (by rfl) (by rfl)) tra_nil)) (by simp)) (by rfl) (by rfl) (fun _ => rfl)).to (σ'' := ⟨gVs cyc acc x2 x3 (some (.val (ob r))) x5 (some (.val (.list (S.map ob)))) (some (.val (ob s))) (some (.val (prV (r, s)))), plOf ps L pr mt⟩) rfl) ?_
  have hfold : (D ++ [s]).foldl (addP r) acc0 = addP r acc s := by rw [List.foldl_append, hac]; rfl
  refine trs_cons (tr_if (b := !decide ((r, s) ∈ acc) && !decide ((s, r) ∈ acc)) (σ₁ := ⟨gVs cyc acc x2 x3 (some (.val (ob r))) x5 (some (.val (.list (S.map ob)))) (some (.val (ob s))) (some (.val (prV (r, s)))), plOf ps L pr mt⟩) ?_ (fun hb => ?_) (fun hb => ?_)) trs_nil
  · refine trt_and ((trt_cmpR (p := prV (r, s)) (tr_name (by rfl) (by rfl)) (trv_own (by rfl) (by rfl)) (cmpR_notin (x := (r, s)) (l := acc) eqPr (by decide)) rfl).to (by congr)) (fun _ => ?_)
    exact (trt_cmpR (p := prV (s, r)) (tr_tup_rev (x := ob r) (y := ob s) (tr_name (by rfl) (by rfl)) (tr_neg tr_int)) (trv_own (by rfl) (by rfl)) (cmpR_notin (x := (s, r)) (l := acc) eqPr (by decide)) rfl).to (by congr)
  · simp only [Bool.and_eq_true, Bool.not_eq_true', decide_eq_false_iff_not] at hb
    refine trs_cons ((tr_expr' (tr_append (xs := acc.map prV) (by rfl) (by rfl) (fun _ => rfl) (tr_tuple (ps := [ob r, ob s]) (tra_cons (fun _ => rfl) (tr_name (i := 4) (p := ob r) (by rfl) (by rfl)) (tra_cons (fun _ => rfl) (tr_name (i := 7) (p := ob s) (by rfl) (by rfl)) tra_nil)) (by simp)) (by rfl) rfl (by rw [List.length_map, sizeLine_eq]; omega)) (fun _ => rfl)).to ?_) trs_nil
    rw [hfold]; unfold addP; rw [if_pos hb]; simp [gVs, St.set, prV]
  · refine trs_nil.to ?_
    rw [hfold]; unfold addP; rw [if_neg]
    rintro ⟨h1, h2⟩
    simp [h1, h2] at hb
theorem prev_mem {cyc : List (Pl × Pl)} {i : Nat} (hi : i < cyc.length) : ((((i : Int) - 1).fmod (cyc.length : Int)).toNat) < cyc.length ∧ ((((i : Int) - 1).fmod (cyc.length : Int)).toNat : Int) = ((i : Int) - 1).fmod (cyc.length : Int) := by
  have hpos : (0 : Int) < cyc.length := by omega
  have h1 := Int.fmod_nonneg_of_pos ((i : Int) - 1) hpos
  have h2 := Int.fmod_lt_of_pos ((i : Int) - 1) hpos
  omega
theorem getD_some {α : Type} {l : List α} {i : Nat} {d : α} (h : i < l.length) : l[i]? = some (l.getD i d) := by simp [h]
theorem pairs_spec (ne : c.mg "enumerate" = none) (nl : c.mg "len" = none) (hf : FnOk c a S_pairs) (hk : k + 1 ≤ 150) (ok : PsOk ps) {cyc : List (Pl × Pl)} (C : CycOk ps pr cyc) :
    FnSpec c k a [.list (cyc.map prV)] (plOf ps L pr mt) (.list ((pairsUp pr cyc cyc.length).map prV)) (plOf ps L pr mt) := by
  have hup : ∀ i, i ≤ cyc.length → (pairsUp pr cyc i).length ≤ i * 100 := by
    intro i
    induction i with
    | zero => intro _; simp [pairsUp]
    | succ i ih =>
      intro hi
      have h1 := ih (by omega)
      have h2 := foldl_addP_len (cyc.getD i (0, 0)).2 (behind pr cyc i) (pairsUp pr cyc i)
      have h3 : (behind pr cyc i).length ≤ 100 := by have := C.lens (cyc.getD i (0, 0)).2; unfold behind; rw [List.length_drop]; omega
      show (List.foldl (addP (cyc.getD i (0, 0)).2) (pairsUp pr cyc i) (behind pr cyc i)).length ≤ _
      omega
  have key : ∃ σ', TrS c (k + 1) (fdScope S_pairs) ⟨gVs cyc [] none none none none none none none, plOf ps L pr mt⟩ (nthS 1 (fdBody S_pairs)) .next σ' ∧ gpOut ps L pr mt cyc cyc.length σ' := by
    refine tr_for_enum_inv prV (gpOut ps L pr mt cyc) (l := cyc) (by rfl) ne (fun _ => rfl) (tr_name (by rfl) (by rfl)) rfl ⟨none, none, none, none, none, none, none, rfl⟩ ?_
    rintro i σ hi ⟨x2, x3, x4, x5, x6, x7, x8, rfl⟩
    obtain ⟨q1, q2⟩ := prev_mem hi
    have hmem : cyc.getD i (0, 0) ∈ cyc := by have := getD_some (d := ((0 : Pl), (0 : Pl))) hi; exact List.mem_of_getElem? this
    have hprev := C.prev i hi
    generalize hq : cyc.getD i (0, 0) = q at hmem hprev
    have hr := (C.mem _ hmem).2
    obtain ⟨l, r⟩ := q
    have hbl : (behind pr cyc i).length ≤ 100 := by have := C.lens (cyc.getD i (0, 0)).2; unfold behind; rw [List.length_drop]; omega
    have hin := gp_inner (c := c) (k := k + 1) (ps := ps) (L := L) (pr := pr) (mt := mt) (cyc := cyc) (r := r) (S := behind pr cyc i) (acc0 := pairsUp pr cyc i) (x2 := some (.val (.int i))) (x3 := some (.val (ob l))) (x5 := some (.val (ob (prevL cyc i)))) (x7 := x7) (x8 := x8) (by have := hup i (by omega); have := C.len; omega)
    obtain ⟨σ', h1, y7, y8, rfl⟩ := hin
    refine ⟨⟨gVs cyc (pairsUp pr cyc i) (some (.val (.int i))) (some (.val (ob l))) (some (.val (ob r))) x5 x6 x7 x8, plOf ps L pr mt⟩, .next, ⟨gVs cyc ((behind pr cyc i).foldl (addP r) (pairsUp pr cyc i)) (some (.val (.int i))) (some (.val (ob l))) (some (.val (ob r))) (some (.val (ob (prevL cyc i)))) (some (.val (.list ((behind pr cyc i).map ob)))) y7 y8, plOf ps L pr mt⟩, ?_, ?_, .inl rfl, some (.val (.int i)), some (.val (ob l)), some (.val (ob r)), some (.val (ob (prevL cyc i))), some (.val (.list ((behind pr cyc i).map ob))), y7, y8, ?_⟩
    · refine tra_tuple (.cons (tra_name (by rfl) (by rfl)) (.cons (tra_tuple (.cons (tra_name (by rfl) (by rfl)) (.cons (tra_name (by rfl) (by rfl)) .nil)) (fun _ => rfl)) .nil)) (fun _ => rfl) |>.to rfl
    · refine trs_cons ((tr_assign (tr_item_tup (j := 0) (xs := [ob (prevL cyc i), ob ((cyc.getD ((((i : Int) - 1).fmod (cyc.length : Int)).toNat) (0, 0)).2)]) (tr_item (xs := cyc.map prV) (j := (((i : Int) - 1).fmod (cyc.length : Int)).toNat) (tr_name (by rfl) (by rfl)) ((tr_mod (tr_sub (tr_name (i := 2) (p := .int i) (by rfl) (by rfl)) tr_int) (tr_len (xs := cyc.map prV) (by rfl) nl (fun _ => rfl) (tr_name (by rfl) (by rfl)).toV) (by rw [List.length_map]; omega)).to (by rw [List.length_map, q2])) (by rw [List.getElem?_map, getD_some (d := ((0 : Pl), (0 : Pl))) q1]; rfl) (fun _ _ _ => rfl)) tr_int rfl (fun _ _ _ => rfl)) (by rfl) (by rfl) (fun _ => rfl)).to (σ'' := ⟨gVs cyc (pairsUp pr cyc i) (some (.val (.int i))) (some (.val (ob l))) (some (.val (ob r))) (some (.val (ob (prevL cyc i)))) x6 x7 x8, plOf ps L pr mt⟩) rfl) ?_
      refine trs_cons ((tr_assign ((tr_slice (nl := some ((pr r).idxOf (prevL cyc i) + 1)) (nh := none) (xs := (pr r).map ob) (tr_attr (i := r.val) (tr_name (by rfl) (by rfl)) (plOf_get ok hr) (by decide +kernel) (by rfl) (fun _ => rfl)) (part_some (tr_add (tr_index eqOb (by decide) (l := pr r) (a := prevL cyc i) (tr_attr (i := r.val) (tr_name (by rfl) (by rfl)) (plOf_get ok hr) (by decide +kernel) (by rfl) (fun _ => rfl)) rfl (fun _ => rfl) (tr_name (i := 5) (by rfl) (by rfl)) rfl hprev (fun _ => rfl) rfl) tr_int) (by push_cast; rfl)) part_none (.inr rfl)).toE.to (p' := .list ((behind pr cyc i).map ob)) ?_) (by rfl) (by rfl) (fun _ => rfl)).to (σ'' := ⟨gVs cyc (pairsUp pr cyc i) (some (.val (.int i))) (some (.val (ob l))) (some (.val (ob r))) (some (.val (ob (prevL cyc i)))) (some (.val (.list ((behind pr cyc i).map ob)))) x7 x8, plOf ps L pr mt⟩) rfl) ?_
      · simp only [sliceOf, behind, hq, List.map_drop]
      · exact trs_cons h1 trs_nil
    · have : pairsUp pr cyc (i + 1) = (behind pr cyc i).foldl (addP r) (pairsUp pr cyc i) := by
        show (behind pr cyc i).foldl (addP (cyc.getD i (0, 0)).2) (pairsUp pr cyc i) = _
        rw [hq]
      rw [this]
  obtain ⟨σ', h1, x2, x3, x4, x5, x6, x7, x8, rfl⟩ := key
  refine fn_intro (σ' := ⟨(gVs cyc (pairsUp pr cyc cyc.length) x2 x3 x4 x5 x6 x7 x8).set 1 (some (.val (.list ((pairsUp pr cyc cyc.length).map prV)))), plOf ps L pr mt⟩) hf rfl (by decide +kernel) (by decide +kernel) hk (fl := .ret _) ?_ (.inl rfl)
  have hvs : initVs (fdScope S_pairs) (fdNames S_pairs) [.list (cyc.map prV)] = [some (.val (.list (cyc.map prV))), none, none, none, none, none, none, none, none, none, none] := by rfl
  rw [hvs]
  refine trs_cons ((tr_assignN (tr_list (ps := []) tra_nil (by simp)) (by rfl) (by rfl) (fun _ => rfl)).to (σ'' := ⟨gVs cyc [] none none none none none none none, plOf ps L pr mt⟩) rfl) ?_
  refine trs_cons h1 ?_
  refine trs_settle (i := 1) (b := .lst ((pairsUp pr cyc cyc.length).map prV)) (by rfl) ?_
  exact trs_stop (tr_return (tr_name (i := 1) (by rfl) (by rfl))) (by simp)
end
end RM
end
noncomputable section
namespace RM
def oVs (p n : Option Bind) (left found : List Pl) (x4 : Option Bind) : List (Option Bind) := [p, n, some (.lst (left.map nv)), some (.lst (found.map nv)), x4, none, none, none]
theorem perm_eraseIdx {α : Type} : ∀ {l : List α} {j : Nat} (h : j < l.length), (l[j] :: l.eraseIdx j).Perm l
  | [], _, h => by simp at h
  | x :: l, 0, _ => .refl _
  | x :: l, j + 1, h => by
    have h' : j < l.length := by simpa using h
    have := perm_eraseIdx h'
    simp only [List.getElem_cons_succ, List.eraseIdx_cons_succ]
    exact (List.Perm.swap _ _ _).trans (this.cons x)
section
variable {c : KB} {k : Nat} {pl : List PRec} {a : Addr}
theorem ord_while (nd : c.mg "divmod" = none) (nl : c.mg "len" = none) {x0 : Option Bind} : ∀ (m : Nat) (left found : List Pl) (n : Int) (x4 : Option Bind), left.length = m → left.length + found.length ≤ 100 →
    ∃ (out : List Pl) (cnt : Nat) (n' : Int) (y4 : Option Bind), out.Perm left ∧ WhileRun c k (fdScope S_order) (whileTest (nthS 1 (fdBody S_order))) (bodyOf (nthS 1 (fdBody S_order))) cnt ⟨oVs x0 (some (.val (.int n))) left found x4, pl⟩ .next ⟨oVs x0 (some (.val (.int n'))) [] (found ++ out) y4, pl⟩ := by
  intro m
  induction m with
  | zero =>
    intro left found n x4 hl hb
    have : left = [] := by simpa using hl
    subst this
    refine ⟨[], 0, n, x4, .refl _, .stop ((trt_cmp_own (xs := []) (by rfl) (by rfl) (tr_list (ps := []) tra_nil (by simp)).toE (by rfl) cmp_ne_nil rfl).to rfl (by simp))⟩
  | succ m ih =>
    intro left found n x4 hl hb
    have hne : left ≠ [] := by intro q; subst q; simp at hl
    have hpos : (0 : Int) < left.length := by omega
    have h1 := Int.fmod_nonneg_of_pos n hpos
    have h2 := Int.fmod_lt_of_pos n hpos
    obtain ⟨j, hj⟩ : ∃ j : Nat, n.fmod (left.length : Int) = j := ⟨_, (Int.toNat_of_nonneg h1).symm⟩
    have hjl : j < left.length := by omega
    obtain ⟨out, cnt, n', y4, hp, hw⟩ := ih (left.eraseIdx j) (found ++ [left[j]]) (n.fdiv left.length) (some (.val (.int j))) (by rw [List.length_eraseIdx_of_lt hjl]; omega) (by rw [List.length_eraseIdx_of_lt hjl]; simp; omega)
    refine ⟨left[j] :: out, cnt + 1, n', y4, ?_, .turn ((trt_cmp_own (xs := left.map nv) (by rfl) (by rfl) (tr_list (ps := []) tra_nil (by simp)).toE (by rfl) cmp_ne_nil rfl).to (by cases left <;> simp_all)) ?_ (by simpa using hw)⟩
    · refine ((List.Perm.cons _ hp).trans ?_)
      exact perm_eraseIdx hjl
    · refine trs_cons ((tr_assign_to (tr_divmod (x := n) (y := left.length) (by rfl) nd (fun _ => rfl) (tra_cons (fun _ => rfl) (tr_name (i := 1) (by rfl) (by rfl)) (tra_cons (fun _ => rfl) ((tr_len (xs := left.map nv) (by rfl) nl (fun _ => rfl) (trv_own (by rfl) (by rfl))).to (by simp)) tra_nil)) (by omega) (by omega))
        (tra_tuple (.cons (tra_name (by rfl) (by rfl)) (.cons (tra_name (by rfl) (by rfl)) .nil)) (fun _ => rfl)) (fun _ => rfl) (fun _ => rfl) (fun _ => rfl)).to (σ'' := ⟨oVs x0 (some (.val (.int (n.fdiv left.length)))) left found (some (.val (.int j))), pl⟩) (by rw [hj]; rfl)) ?_
      refine trs_cons ((tr_expr' (tr_append (xs := found.map nv) (by rfl) (by rfl) (fun _ => rfl) (tr_popAt (xs := left.map nv) (j := j) (p := nv left[j]) (by rfl) (by rfl) (fun _ => rfl) (tr_name (i := 4) (by rfl) (by rfl)) (by rfl) (by simp [hjl]) rfl) (by rfl) rfl (by rw [List.length_map, sizeLine_eq]; omega)) (fun _ => rfl)).to ?_) trs_nil
      simp [oVs, St.set, erase_map]
theorem order_spec (nd : c.mg "divmod" = none) (nl : c.mg "len" = none) (nli : c.mg "list" = none) (hf : FnOk c a S_order) (hk : k + 1 ≤ 150) {l : List Pl} (hl : l.length ≤ 100) (n : Int) :
    ∃ out : List Pl, out.Perm l ∧ FnSpec c k a [.list (l.map nv), .int n] pl (.list (out.map nv)) pl := by
  obtain ⟨out, cnt, n', y4, hp, hw⟩ := ord_while (c := c) (k := k + 1) (pl := pl) nd nl (x0 := some (.val (.list (l.map nv)))) l.length l [] n none rfl (by simp; omega)
  refine ⟨out, hp, ?_⟩
  refine fn_intro (σ' := ⟨(oVs (some (.val (.list (l.map nv)))) (some (.val (.int n'))) [] out y4).set 3 (some (.val (.list (out.map nv)))), pl⟩) hf rfl (by decide +kernel) (by decide +kernel) hk (fl := .ret _) ?_ (.inl rfl)
  have hvs : initVs (fdScope S_order) (fdNames S_order) [.list (l.map nv), .int n] = [some (.val (.list (l.map nv))), some (.val (.int n)), none, none, none, none, none, none] := by rfl
  rw [hvs]
  refine trs_cons ((tr_assign_swap (.inl rfl) (by rfl) (by rfl) (by decide +kernel) rfl (tr_list_copy (xs := l.map nv) (by rfl) nli (fun _ => rfl) (tr_name (by rfl) (by rfl))) made_list).to (σ'' := ⟨oVs (some (.val (.list (l.map nv)))) (some (.val (.int n))) l [] none, pl⟩) rfl) ?_
  refine trs_cons (tr_while hw) ?_
  refine trs_settle (i := 3) (b := .lst (out.map nv)) (by rfl) ?_
  exact trs_stop (tr_return (tr_name (i := 3) (by rfl) (by rfl))) (by simp)
end
end RM
end
noncomputable section
namespace RM
def psN (n : Nat) : List Pl := (List.finRange 6).take n
def dictV (ps : List Pl) (T : Pl → List Pl) : List (Str × PV) := ps.map fun i => (nm i, .list ((T i).map nv))
def others (ps : List Pl) (i : Pl) : List Pl := ps.filter fun x => !decide (x = i)
theorem psOk4 : PsOk (psN 4) := ⟨by decide +kernel, by decide +kernel⟩
theorem psOk6 : PsOk (psN 6) := ⟨by decide +kernel, by decide +kernel⟩
theorem psOkN {n : Nat} (h : n = 4 ∨ n = 6) : PsOk (psN n) := by rcases h with rfl | rfl; exact psOk4; exact psOk6
theorem psLen {n : Nat} (h : n = 4 ∨ n = 6) : (psN n).length = n := by rcases h with rfl | rfl <;> decide +kernel
def liVs (ns : List Int) (n : Nat) (D : List (Str × PV)) (x4 x5 x6 : Option Bind) : List (Option Bind) := [some (.val (.list (ns.map .int))), some (.val (.int (n : Nat))), some (.val (.list ((psN n).map nv))), some (.dct D), x4, x5, x6, none, none, none, none]
section
variable {c : KB} {k : Nat} {pl : List PRec} {a : Addr}
def liInv (ns : List Int) (n : Nat) (pl : List PRec) (i : Nat) (σ : St) : Prop := ∃ T x4 x5 x6, (∀ j ∈ (psN n).take i, (T j).Perm (others (psN n) j)) ∧ σ = ⟨liVs ns n (dictV ((psN n).take i) T) x4 x5 x6, pl⟩
theorem bits6 : ∀ i : Fin 7, Builtin.Int.intBits ((i.val : Nat) : Int) ≤ 64 := by decide +kernel
theorem lists_spec (ne : c.mg "enumerate" = none) (nl : c.mg "len" = none) (nli : c.mg "list" = none) (nd : c.mg "divmod" = none) {aO : Addr} (hO : FnOk c aO S_order) (gO : c.mg "_law_order" = some (.ref aO)) (hf : FnOk c a S_lists) (hk : k + 2 ≤ 150) (ns : List Int) (hns : ns.length ≤ 7) :
    ∃ n T, (n = 4 ∨ n = 6) ∧ (∀ j ∈ psN n, (T j).Perm (others (psN n) j)) ∧ FnSpec c k a [.list (ns.map .int)] pl (.dict (dictV (psN n) T)) pl := by
  have hmany : ∃ n : Nat, (n = 4 ∨ n = 6) ∧ (4 : Int) + 2 * ((match ns with | [] => 1 | z :: _ => z).fmod 2) = n := by
    generalize (match ns with | [] => (1 : Int) | z :: _ => z) = z
    have h1 := Int.fmod_nonneg_of_pos z (b := 2) (by decide)
    have h2 := Int.fmod_lt_of_pos z (b := 2) (by decide)
    have : z.fmod 2 = 0 ∨ z.fmod 2 = 1 := by omega
    rcases this with h | h
    · exact ⟨4, .inl rfl, by rw [h]; rfl⟩
    · exact ⟨6, .inr rfl, by rw [h]; rfl⟩
  obtain ⟨n, hn, hmany⟩ := hmany
  have hlen := psLen hn
  have key : ∃ σ', TrS c (k + 1) (fdScope S_lists) ⟨liVs ns n [] none none none, pl⟩ (nthS 2 (fdBody S_lists)) .next σ' ∧ liInv ns n pl (psN n).length σ' := by
    refine tr_for_enum_inv nv (liInv ns n pl) (l := psN n) (by rfl) ne (fun _ => rfl) (tr_name (by rfl) (by rfl)) rfl ⟨fun _ => [], none, none, none, by simp, rfl⟩ ?_
    rintro i σ hi ⟨T, x4, x5, x6, hT, rfl⟩
    have hget := getD_some (d := (default : Pl)) hi
    generalize hj : (psN n).getD i default = j at hget
    have hi7 : i < 7 := by omega
    have hb := bits6 ⟨i, hi7⟩
    have htk : (psN n).take (i + 1) = (psN n).take i ++ [j] := by rw [List.take_add_one, hget]; rfl
    have hjn : j ∉ (psN n).take i := by
      have := (psOkN hn).nd
      have h2 : ((psN n).take (i + 1)).Nodup := this.sublist (List.take_sublist ..)
      rw [htk, List.nodup_append] at h2
      exact fun h => h2.2.2 j h j (by simp) rfl
    have hol : (others (psN n) j).length ≤ 100 := Nat.le_trans (List.length_filter_le ..) (by omega)
    have hnum : ∃ num : Int, TrE c (k + 1) (fdScope S_lists) ⟨liVs ns n (dictV ((psN n).take i) T) (some (.val (.int i))) (some (.val (nv j))) x6, pl⟩ (match nthS 0 (bodyOf (nthS 2 (fdBody S_lists))) with | .Assign _ e _ => e | _ => .Constant .none 0 ⟨0, 0, 0, 0⟩) (.int num) ⟨liVs ns n (dictV ((psN n).take i) T) (some (.val (.int i))) (some (.val (nv j))) x6, pl⟩ := by
      refine ⟨if i + 1 < ns.length then ns.getD (i + 1) 0 else 7 * i * i + 5 * n, ?_⟩
      refine tr_ifexp (b := decide (i + 1 < ns.length)) ((trt_cmp (tr_add (tr_name (i := 4) (by rfl) (by rfl)) tr_int) (tr_len (xs := ns.map .int) (by rfl) nl (fun _ => rfl) (tr_name (by rfl) (by rfl)).toV).toV cmp_lt_int rfl).to ?_) (fun hb2 => ?_) (fun hb2 => ?_)
      · rw [List.length_map]; apply decide_eq_decide.mpr; omega
      · have h1 : i + 1 < ns.length := of_decide_eq_true hb2
        rw [if_pos h1]
        exact tr_item (j := i + 1) (xs := ns.map .int) (tr_name (by rfl) (by rfl)) ((tr_add (tr_name (i := 4) (by rfl) (by rfl)) tr_int).to (by push_cast; rfl)) (by rw [List.getElem?_map, getD_some (d := (0 : Int)) h1]; rfl) (fun _ _ _ => rfl)
      · have h1 : ¬ i + 1 < ns.length := of_decide_eq_false hb2
        rw [if_neg h1]
        exact tr_add (tr_mul (tr_mul tr_int (tr_name (i := 4) (by rfl) (by rfl)) (IntMulOk.of_left (by decide +kernel))) (tr_name (i := 4) (by rfl) (by rfl)) (IntMulOk.of_right hb)) (tr_mul tr_int (tr_name (i := 1) (by rfl) (by rfl)) (IntMulOk.of_left (by decide +kernel)))
    obtain ⟨num, hnum⟩ := hnum
    obtain ⟨out, hperm, hspec⟩ := order_spec (c := c) (k := k + 1) (pl := pl) nd nl nli hO (by omega) (l := others (psN n) j) hol num
    have hdict : dictV ((psN n).take (i + 1)) (upd T j out) = dictV ((psN n).take i) T ++ [(nm j, .list (out.map nv))] := by
      rw [htk]
      simp only [dictV, List.map_append, List.map_cons, List.map_nil, upd_self]
      congr 1
      apply List.map_congr_left
      intro x hx
      have : x ≠ j := fun e => hjn (e ▸ hx)
      rw [upd_ne _ _ this]
    refine ⟨⟨liVs ns n (dictV ((psN n).take i) T) (some (.val (.int i))) (some (.val (nv j))) x6, pl⟩, .next, ⟨liVs ns n (dictV ((psN n).take (i + 1)) (upd T j out)) (some (.val (.int i))) (some (.val (nv j))) (some (.val (.int num))), pl⟩, ?_, ?_, .inl rfl, upd T j out, some (.val (.int i)), some (.val (nv j)), some (.val (.int num)), ?_, rfl⟩
    · exact (tra_tuple (.cons (tra_name (by rfl) (by rfl)) (.cons (tra_name (by rfl) (by rfl)) .nil)) (fun _ => rfl)).to rfl
    · refine trs_cons ((tr_assign hnum (by rfl) (by rfl) (fun _ => rfl)).to (σ'' := ⟨liVs ns n (dictV ((psN n).take i) T) (some (.val (.int i))) (some (.val (nv j))) (some (.val (.int num))), pl⟩) rfl) ?_
      refine trs_cons ((tr_set_item (kvs := dictV ((psN n).take i) T) (key := nm j) (p := .list (out.map nv)) (tr_call (by rfl) gO hO.isFn (fun _ => rfl) (tra_cons (fun _ => rfl) (tr_compf (l := psN n) (f := nv) (val := nv) (keep := fun x => !decide (x = j)) (Inv := fun vs => ∃ x y, vs = [x, y, some (.val (nv j))]) (tr_name (i := 2) (by rfl) (by rfl)) (.list _) rfl (by rfl) (by rfl) (by decide +kernel) ⟨_, _, rfl⟩ ?_ (by omega) (fun _ _ => rfl)) (tra_cons (fun _ => rfl) (tr_name (i := 6) (by rfl) (by rfl)) tra_nil)) hspec) (by rfl) (by rfl) (tr_name (i := 5) (by rfl) (by rfl)) ?_ ?_ (fun _ => rfl)).to ?_) trs_nil
      · rintro b - vs ⟨x, y, rfl⟩
        refine ⟨[x, some (.val (nv b)), some (.val (nv j))], ⟨_, _, rfl⟩, (tra_name (by rfl) (by rfl)).to, ?_, fun _ => tr_name (by rfl) (by rfl)⟩
        refine (trt_cmp (tr_name (p := .str (nm b)) (by rfl) (by rfl)) (tr_name (p := .str (nm j)) (by rfl) (by rfl)).toV cmp_ne_str rfl).to ?_
        by_cases h : b = j
        · subst h; simp
        · have : nm b ≠ nm j := fun e => h (nm_inj _ _ e)
          simp [h, this]
      · intro hm
        simp only [dictV, List.map_map, List.mem_map, Function.comp] at hm
        obtain ⟨x, hx, e⟩ := hm
        exact hjn (nm_inj _ _ e ▸ hx)
      · simp [dictV]; omega
      · rw [hdict]; rfl
    · intro x hx
      rw [htk, List.mem_append, List.mem_singleton] at hx
      by_cases h : x = j
      · subst h; rw [upd_self]; exact hperm
      · rw [upd_ne _ _ h]
        rcases hx with hx | hx
        · exact hT x hx
        · exact absurd hx h
  obtain ⟨σ', h1, T, x4, x5, x6, hT, rfl⟩ := key
  refine ⟨n, T, hn, by simpa using hT, ?_⟩
  have htake : (psN n).take (psN n).length = psN n := by simp
  rw [htake] at h1
  refine fn_intro (σ' := ⟨(liVs ns n (dictV (psN n) T) x4 x5 x6).set 3 (some (.val (.dict (dictV (psN n) T)))), pl⟩) hf rfl (by decide +kernel) (by decide +kernel) (by omega) (fl := .ret _) ?_ (.inl rfl)
  have hvs : initVs (fdScope S_lists) (fdNames S_lists) [.list (ns.map .int)] = [some (.val (.list (ns.map .int))), none, none, none, none, none, none, none, none, none, none] := by rfl
  rw [hvs]
  refine trs_cons ((tr_assign ((tr_add tr_int (tr_mul tr_int (tr_mod (tr_ifexp (b := !ns.isEmpty) (p := .int (match ns with | [] => 1 | z :: _ => z)) ((trt_cmp (tr_name (i := 0) (p := .list (ns.map .int)) (by rfl) (by rfl)) (tr_list (ps := []) tra_nil (by simp)).toE.toV cmp_ne_nil rfl).to (by simp)) (fun hb => ?_) (fun hb => ?_)) tr_int (by decide)) ?_)).to (p' := .int (n : Nat)) (σ'' := ⟨[some (.val (.list (ns.map .int))), none, none, none, none, none, none, none, none, none, none], pl⟩) (by rw [hmany])) (by rfl) (by rfl) (fun _ => rfl)).to (σ'' := ⟨[some (.val (.list (ns.map .int))), some (.val (.int (n : Nat))), none, none, none, none, none, none, none, none, none], pl⟩) rfl) ?_
  · cases ns with
    | nil => simp at hb
    | cons z r => exact tr_item (j := 0) (xs := (z :: r).map .int) (tr_name (by rfl) (by rfl)) tr_int (by simp) (fun _ _ _ => rfl)
  · cases ns with
    | nil => exact tr_int
    | cons z r => simp at hb
  · exact IntMulOk.of_left (by decide +kernel)
  · refine trs_cons ((tr_assign_swap (.inr rfl) (by rfl) (by rfl) (by decide +kernel) rfl (tr_list_str (x := ⟨(#[97, 98, 99, 100, 101, 102] : Array Nat).extract 0 n⟩) (by rfl) nli (fun _ => rfl) (tr_str_upto (n := n) tr_str (tr_name (i := 1) (by rfl) (by rfl)) ?_) ?_) made_dict).to (σ'' := ⟨[some (.val (.list (ns.map .int))), some (.val (.int (n : Nat))), some (.lst ((psN n).map nv)), some (.dct []), none, none, none, none, none, none, none], pl⟩) ?_) ?_
    · intro t u
      rcases hn with rfl | rfl
      · right; exact ⟨by rfl, by decide +kernel⟩
      · left; rfl
    · simp; omega
    · rcases hn with rfl | rfl <;> rfl
    · refine trs_settle (i := 2) (b := .lst ((psN n).map nv)) (by rfl) ?_
      refine trs_cons h1 ?_
      refine trs_settle (i := 3) (b := .dct (dictV (psN n) T)) (by rfl) ?_
      exact trs_stop (tr_return (tr_name (i := 3) (by rfl) (by rfl))) (by simp)
end
end RM
end
noncomputable section
namespace RM
def rem (r : List Pl) (o : Pl) : List Pl := r.filter fun x => !decide (x = o)
def pairF : Nat → List Pl → List (List (Pl × Pl))
  | _, [] => [[]]
  | 0, _ :: _ => []
  | f + 1, x :: r => r.flatMap fun o => (pairF f (rem r o)).map fun P => (x, o) :: (o, x) :: P
def kvP (P : List (Pl × Pl)) : List (Str × PV) := P.map fun q => (nm q.1, nv q.2)
def dP (P : List (Pl × Pl)) : PV := .dict (kvP P)
theorem pairF_keys : ∀ (f : Nat) (l : List Pl), l.Nodup → ∀ P ∈ pairF f l, (P.map (·.1)).Nodup ∧ (∀ q ∈ P, q.1 ∈ l ∧ q.2 ∈ l) ∧ P.length ≤ 2 * f
  | f, [], nd, P, h => by
    have : P = [] := by cases f <;> simpa [pairF] using h
    subst this; simp
  | 0, x :: r, nd, P, h => by simp [pairF] at h
  | f + 1, x :: r, nd, P, h => by
    simp only [pairF, List.mem_flatMap, List.mem_map] at h
    obtain ⟨o, ho, P', hP', rfl⟩ := h
    rw [List.nodup_cons] at nd
    obtain ⟨h1, h2, h3⟩ := pairF_keys f (rem r o) (nd.2.filter _) P' hP'
    have hxo : x ≠ o := fun e => nd.1 (e ▸ ho)
    have sub : ∀ q ∈ P', (q.1 ∈ r ∧ q.1 ≠ o) ∧ (q.2 ∈ r ∧ q.2 ≠ o) := fun q hq => by
      obtain ⟨a, b⟩ := h2 q hq
      simp only [rem, List.mem_filter, Bool.not_eq_true', decide_eq_false_iff_not] at a b
      exact ⟨a, b⟩
    refine ⟨?_, ?_, by simp; omega⟩
    · simp only [List.map_cons, List.nodup_cons, List.mem_cons, not_or]
      refine ⟨⟨hxo, fun hm => ?_⟩, fun hm => ?_, h1⟩
      · obtain ⟨q, hq, e⟩ := List.mem_map.mp hm
        exact nd.1 (e ▸ (sub q hq).1.1)
      · obtain ⟨q, hq, e⟩ := List.mem_map.mp hm
        exact (sub q hq).1.2 e
    · intro q hq
      rcases List.mem_cons.mp hq with rfl | hq
      · exact ⟨by simp, by simp [ho]⟩
      · rcases List.mem_cons.mp hq with rfl | hq
        · exact ⟨by simp [ho], by simp⟩
        · exact ⟨by simp [(sub q hq).1.1], by simp [(sub q hq).2.1]⟩
theorem flat_len {α β : Type} (g : α → List β) (b : Nat) : ∀ (l : List α), (∀ a ∈ l, (g a).length ≤ b) → (l.flatMap g).length ≤ l.length * b
  | [], _ => by simp
  | a :: l, h => by
    have h1 := h a (by simp)
    have h2 := flat_len g b l fun x hx => h x (by simp [hx])
    simp only [List.flatMap_cons, List.length_append, List.length_cons, Nat.add_mul]
    omega
theorem pairF_len : ∀ (f : Nat) (l : List Pl), l.length ≤ 6 → (pairF f l).length ≤ 6 ^ f
  | f, [], _ => by
    have : pairF f [] = [[]] := by cases f <;> rfl
    rw [this]; exact Nat.pos_of_ne_zero (by simp)
  | 0, x :: r, _ => by simp [pairF]
  | f + 1, x :: r, h => by
    simp only [List.length_cons] at h
    have := flat_len (fun o => (pairF f (rem r o)).map fun P => (x, o) :: (o, x) :: P) (6 ^ f) r (fun o ho => by
      rw [List.length_map]; exact pairF_len f (rem r o) (Nat.le_trans (List.length_filter_le ..) (by omega)))
    refine Nat.le_trans this ?_
    rw [Nat.pow_succ, Nat.mul_comm]
    exact Nat.mul_le_mul_left _ (by omega)
def paVs (l : List Pl) (acc : List (List (Pl × Pl))) (x2 x3 x4 : Option Bind) : List (Option Bind) := [some (.val (.list (l.map nv))), some (.lst (acc.map dP)), x2, x3, x4, none, none, none]
section
variable {c : KB} {k : Nat} {pl : List PRec} {a : Addr}
def paOut (pl : List PRec) (l : List Pl) (g : Pl → List (List (Pl × Pl))) (D : List Pl) (σ : St) : Prop := ∃ x2 x3 x4, σ = ⟨paVs l (D.flatMap g) x2 x3 x4, pl⟩
def paIn (pl : List PRec) (l : List Pl) (x o : Pl) (x3 : Option Bind) (acc0 : List (List (Pl × Pl))) (D : List (List (Pl × Pl))) (σ : St) : Prop := ∃ x4, σ = ⟨paVs l (acc0 ++ D.map fun P => (x, o) :: (o, x) :: P) (some (.val (nv o))) x3 x4, pl⟩
theorem pairings_spec (nd : c.mg "dict" = none) (nli : c.mg "list" = none) (gP : c.mg "_law_pairings" = some (.ref a)) (hf : FnOk c a S_pairings) : ∀ (f : Nat) (k : Nat) (l : List Pl), k + f + 1 ≤ 150 → f ≤ 6 → l.length ≤ f → l.Nodup →
    FnSpec c k a [.list (l.map nv)] pl (.list ((pairF f l).map dP)) pl := by
  intro f
  induction f with
  | zero =>
    intro k l hk hf6 hl hnd
    have : l = [] := by simpa using hl
    subst this
    refine fn_intro (σ' := ⟨[some (.val (.list [])), none, none, none, none, none, none, none], pl⟩) hf rfl (by decide +kernel) (by decide +kernel) (by omega) (fl := .ret (.list [.dict []])) ?_ (.inl rfl)
    have hvs : initVs (fdScope S_pairings) (fdNames S_pairings) [.list (([] : List Pl).map nv)] = [some (.val (.list [])), none, none, none, none, none, none, none] := by rfl
    rw [hvs]
    refine trs_stop (tr_if (b := true) ((trt_cmp (tr_name (p := .list []) (by rfl) (by rfl)) (tr_list (ps := []) tra_nil (by simp)).toE.toV cmp_eq_nil rfl).to rfl) (fun _ => trs_stop (tr_return (tr_list (ps := [.dict []]) (tra_cons (fun _ => rfl) tr_dict0.toD tra_nil) (by simp)).toE) (by simp)) (fun q => by cases q)) (by simp)
  | succ f ih =>
    intro k l hk hf6 hl hnd
    cases l with
    | nil =>
      refine fn_intro (σ' := ⟨[some (.val (.list [])), none, none, none, none, none, none, none], pl⟩) hf rfl (by decide +kernel) (by decide +kernel) (by omega) (fl := .ret (.list [.dict []])) ?_ (.inl rfl)
      have hvs : initVs (fdScope S_pairings) (fdNames S_pairings) [.list (([] : List Pl).map nv)] = [some (.val (.list [])), none, none, none, none, none, none, none] := by rfl
      rw [hvs]
      refine trs_stop (tr_if (b := true) ((trt_cmp (tr_name (p := .list []) (by rfl) (by rfl)) (tr_list (ps := []) tra_nil (by simp)).toE.toV cmp_eq_nil rfl).to rfl) (fun _ => trs_stop (tr_return (tr_list (ps := [.dict []]) (tra_cons (fun _ => rfl) tr_dict0.toD tra_nil) (by simp)).toE) (by simp)) (fun q => by cases q)) (by simp)
    | cons x r =>
      simp only [List.length_cons] at hl
      have hnd' := List.nodup_cons.mp hnd
      let g : Pl → List (List (Pl × Pl)) := fun o => (pairF f (rem r o)).map fun P => (x, o) :: (o, x) :: P
      have hrl : ∀ o, (rem r o).length ≤ r.length := fun o => List.length_filter_le ..
      have hpow : 6 ^ f ≤ 6 ^ 5 := Nat.pow_le_pow_right (by decide) (by omega)
      have hgl : ∀ o, (g o).length ≤ 6 ^ 5 := fun o => by
        show ((pairF f (rem r o)).map _).length ≤ _
        rw [List.length_map]; exact Nat.le_trans (pairF_len f _ (by have := hrl o; omega)) hpow
      have key : ∃ σ', TrS c (k + 1) (fdScope S_pairings) ⟨paVs (x :: r) [] none none none, pl⟩ (nthS 2 (fdBody S_pairings)) .next σ' ∧ paOut pl (x :: r) g r σ' := by
        refine tr_for_inv (f := nv) (paOut pl (x :: r) g) (l := r) (tr_slice (nl := some 1) (nh := none) (tr_name (i := 0) (p := .list ((x :: r).map nv)) (by rfl) (by rfl)) (part_some tr_int rfl) part_none (.inr rfl)).toE rfl ⟨none, none, none, rfl⟩ ?_ (fun _ _ => rfl)
        rintro o D rest σ hr ⟨x2, x3, x4, rfl⟩
        have ho : o ∈ r := by rw [hr]; simp
        have hDl : D.length ≤ 5 := by have : r.length = D.length + (rest.length + 1) := by rw [hr]; simp
                                      omega
        have hacc : (D.flatMap g).length ≤ 5 * 6 ^ 5 := Nat.le_trans (flat_len g (6 ^ 5) D fun a _ => hgl a) (Nat.mul_le_mul_right _ hDl)
        generalize hA : D.flatMap g = acc0 at hacc
        have hrec := ih (k + 1) (rem r o) (by omega) (by omega) (by have := hrl o; omega) (hnd'.2.filter _)
        have hkeys := pairF_keys f (rem r o) (hnd'.2.filter _)
        have hin : ∃ σ', TrS c (k + 1) (fdScope S_pairings) ⟨paVs (x :: r) acc0 (some (.val (nv o))) (some (.val (.list ((rem r o).map nv)))) x4, pl⟩ (nthS 1 (bodyOf (nthS 2 (fdBody S_pairings)))) .next σ' ∧ paIn pl (x :: r) x o (some (.val (.list ((rem r o).map nv)))) acc0 (pairF f (rem r o)) σ' := by
          refine tr_for_inv (f := dP) (paIn pl (x :: r) x o (some (.val (.list ((rem r o).map nv)))) acc0) (l := pairF f (rem r o)) (tr_call (by rfl) gP hf.isFn (fun _ => rfl) (tra_cons (fun _ => rfl) (tr_name (i := 3) (by rfl) (by rfl)) tra_nil) hrec) rfl ⟨x4, by simp⟩ ?_ (fun _ _ => rfl)
          rintro P D2 rest2 σ hr2 ⟨x4', rfl⟩
          have hP : P ∈ pairF f (rem r o) := by rw [hr2]; simp
          obtain ⟨k1, k2, k3⟩ := hkeys P hP
          have hD2 : D2.length ≤ 6 ^ 5 := by
            have h1 := pairF_len f (rem r o) (by have := hrl o; omega)
            have : (pairF f (rem r o)).length = D2.length + (rest2.length + 1) := by rw [hr2]; simp
            omega
          refine ⟨⟨paVs (x :: r) (acc0 ++ D2.map fun P => (x, o) :: (o, x) :: P) (some (.val (nv o))) (some (.val (.list ((rem r o).map nv)))) (some (.val (dP P))), pl⟩, .next, _, (tra_name (by rfl) (by rfl)).to, ?_, .inl rfl, some (.val (dP P)), rfl⟩
          refine trs_cons ((tr_expr' (tr_append (σ₁ := ⟨paVs (x :: r) (acc0 ++ D2.map fun P => (x, o) :: (o, x) :: P) (some (.val (nv o))) (some (.val (.list ((rem r o).map nv)))) (some (.val (dP P))), pl⟩) (xs := (acc0 ++ D2.map fun P => (x, o) :: (o, x) :: P).map dP) (p := dP ((x, o) :: (o, x) :: P)) (by rfl) (by rfl) (fun _ => rfl) ?_ (by rfl) rfl ?_) (fun _ => rfl)).to ?_) trs_nil
          · refine (tr_dict (kvs := kvP ((x, o) :: (o, x) :: P)) (xs := [.tup [nv x, nv o], .tup [nv o, nv x]] ++ (kvP P).map fun p => .tup [.str p.1, p.2]) (by rfl) nd (fun _ => rfl) (tr_addl (tr_list (ps := [.tup [nv x, nv o], .tup [nv o, nv x]]) (tra_cons (fun _ => rfl) (tr_tuple (ps := [nv x, nv o]) (tra_cons (fun _ => rfl) (tr_item (j := 0) (xs := (x :: r).map nv) (tr_name (by rfl) (by rfl)) tr_int (by simp) (fun _ _ _ => rfl)) (tra_cons (fun _ => rfl) (tr_name (i := 2) (p := nv o) (by rfl) (by rfl)) tra_nil)) (by simp))
              (tra_cons (fun _ => rfl) (tr_tuple (ps := [nv o, nv x]) (tra_cons (fun _ => rfl) (tr_name (i := 2) (p := nv o) (by rfl) (by rfl)) (tra_cons (fun _ => rfl) (tr_item (j := 0) (xs := (x :: r).map nv) (tr_name (by rfl) (by rfl)) tr_int (by simp) (fun _ _ _ => rfl)) tra_nil)) (by simp)) tra_nil)) (by simp)).toE
              (tr_list_items (kvs := kvP P) (by rfl) nli (tr_name (i := 4) (by rfl) (by rfl)) (fun _ => rfl) rfl (fun _ => rfl)) (by simp [kvP]; omega)).toE rfl ?_ (by simp [kvP]; omega)).toD
            have : ((kvP ((x, o) :: (o, x) :: P)).map (·.1)) = (((x, o) :: (o, x) :: P).map (·.1)).map nm := by simp [kvP, Function.comp_def]
            rw [this]
            have hk := pairF_keys (f + 1) (x :: r) hnd ((x, o) :: (o, x) :: P) (by simp only [pairF, List.mem_flatMap, List.mem_map]; exact ⟨o, ho, P, hP, rfl⟩)
            exact (List.pairwise_map.mpr (hk.1.imp fun h e => h (nm_inj _ _ e)))
          · rw [List.length_map, List.length_append, List.length_map, sizeLine_eq]
            omega
          · simp [paVs, St.set]
        obtain ⟨σ', h1, y4, rfl⟩ := hin
        refine ⟨⟨paVs (x :: r) acc0 (some (.val (nv o))) x3 x4, pl⟩, .next, ⟨paVs (x :: r) (acc0 ++ (pairF f (rem r o)).map fun P => (x, o) :: (o, x) :: P) (some (.val (nv o))) (some (.val (.list ((rem r o).map nv)))) y4, pl⟩, (tra_name (by rfl) (by rfl)).to, ?_, .inl rfl, some (.val (nv o)), some (.val (.list ((rem r o).map nv))), y4, by rw [List.flatMap_append, hA]; simp [g]⟩
        refine trs_cons ((tr_assign_compf (l := r) (f := nv) (val := nv) (keep := fun x => !decide (x = o)) (Inv := fun vs => ∃ y z, vs = [y, z, some (.val (nv o))]) (by rfl) (by rfl) (tr_slice (nl := some 1) (nh := none) (tr_name (i := 0) (p := .list ((x :: r).map nv)) (by rfl) (by rfl)) (part_some tr_int rfl) part_none (.inr rfl)).toE (.list _) rfl (by rfl) (by rfl) (by decide +kernel) ⟨_, _, rfl⟩ ?_ (by omega) (fun _ _ => rfl)).to (σ'' := ⟨paVs (x :: r) acc0 (some (.val (nv o))) (some (.val (.list ((rem r o).map nv)))) x4, pl⟩) rfl) ?_
        · rintro b - vs ⟨y, z, rfl⟩
          refine ⟨[y, some (.val (nv b)), some (.val (nv o))], ⟨_, _, rfl⟩, (tra_name (by rfl) (by rfl)).to, ?_, fun _ => tr_name (by rfl) (by rfl)⟩
          refine (trt_cmp (tr_name (p := .str (nm b)) (by rfl) (by rfl)) (tr_name (p := .str (nm o)) (by rfl) (by rfl)).toV cmp_ne_str rfl).to ?_
          by_cases h : b = o
          · subst h; simp
          · have : nm b ≠ nm o := fun e => h (nm_inj _ _ e)
            simp [h, this]
        · exact trs_cons h1 trs_nil
      obtain ⟨σ', h1, x2, x3, x4, rfl⟩ := key
      have hres : r.flatMap g = pairF (f + 1) (x :: r) := rfl
      rw [hres] at h1
      refine fn_intro (σ' := ⟨(paVs (x :: r) (pairF (f + 1) (x :: r)) x2 x3 x4).set 1 (some (.val (.list ((pairF (f + 1) (x :: r)).map dP)))), pl⟩) hf rfl (by decide +kernel) (by decide +kernel) (by omega) (fl := .ret _) ?_ (.inl rfl)
      have hvs : initVs (fdScope S_pairings) (fdNames S_pairings) [.list ((x :: r).map nv)] = [some (.val (.list ((x :: r).map nv))), none, none, none, none, none, none, none] := by rfl
      rw [hvs]
      refine trs_cons (tr_if (b := false) ((trt_cmp (tr_name (p := .list ((x :: r).map nv)) (by rfl) (by rfl)) (tr_list (ps := []) tra_nil (by simp)).toE.toV cmp_eq_nil rfl).to rfl) (fun q => by cases q) (fun _ => trs_nil)) ?_
      refine trs_cons ((tr_assignN (tr_list (ps := []) tra_nil (by simp)) (by rfl) (by rfl) (fun _ => rfl)).to (σ'' := ⟨paVs (x :: r) [] none none none, pl⟩) rfl) ?_
      refine trs_cons h1 ?_
      refine trs_settle (i := 1) (b := .lst ((pairF (f + 1) (x :: r)).map dP)) (by rfl) ?_
      exact trs_stop (tr_return (tr_name (i := 1) (by rfl) (by rfl))) (by simp)
end
end RM
end
noncomputable section
namespace RM
theorem dictV_lookup {T : Pl → List Pl} {i : Pl} : ∀ {ps : List Pl}, i ∈ ps → (dictV ps T).lookup (nm i) = some (.list ((T i).map nv))
  | [], h => by cases h
  | j :: ps, h => by
    simp only [dictV, List.map_cons, List.lookup_cons]
    by_cases e : i = j
    · subst e; simp
    · have : (nm i == nm j) = false := by
        have : nm i ≠ nm j := fun q => e (nm_inj _ _ q)
        simpa using this
      simp only [this]
      exact dictV_lookup (by simpa [e] using h)
theorem dictV_keys {ps : List Pl} {T : Pl → List Pl} : (dictV ps T).map (·.1) = ps.map nm := by simp [dictV, Function.comp_def]
structure MateOk (ps : List Pl) (P : List (Pl × Pl)) (M : Pl → Pl) : Prop where
  lk : ∀ i ∈ ps, (kvP P).lookup (nm i) = some (nv (M i))
  keys : ∀ q ∈ P, q.1 ∈ ps
  cov : ∀ i ∈ ps, i ∈ P.map (·.1)
abbrev stbOne (L : Pl → List Pl) (M : Pl → Pl) (i j : Pl) : Prop := ¬ ((L j).idxOf i < (L j).idxOf (M j))
abbrev stbAt (L : Pl → List Pl) (M : Pl → Pl) (i : Pl) : Prop := ∀ j ∈ (L i).take ((L i).idxOf (M i)), stbOne L M i j
abbrev stb (ps : List Pl) (L : Pl → List Pl) (M : Pl → Pl) : Prop := ∀ i ∈ ps, stbAt L M i
structure LOk (ps : List Pl) (L : Pl → List Pl) : Prop where
  mem : ∀ i j, j ∈ L i → j ∈ ps
  sym : ∀ i ∈ ps, ∀ j, j ∈ L i → i ∈ L j
section
variable {c : KB} {k : Nat} {ps : List Pl} {L pr : Pl → List Pl} {mt : Pl → Option Pl} {a : Addr} {pl : List PRec}
def sVs (p m : PV) (x2 x3 : Option Bind) : List (Option Bind) := [some (.val p), some (.val m), x2, x3]
theorem stable_spec (hf : FnOk c a S_stable) (hk : k + 1 ≤ 150) {P : List (Pl × Pl)} {M : Pl → Pl} (hL : LOk ps L) (hM : MateOk ps P M) (hml : ∀ i ∈ ps, M i ∈ L i) :
    FnSpec c k a [.dict (dictV ps L), dP P] pl (.bool (decide (stb ps L M))) pl := by
  have key : ∃ σ', TrS c (k + 1) (fdScope S_stable) ⟨sVs (.dict (dictV ps L)) (dP P) none none, pl⟩ (nthS 0 (fdBody S_stable)) (if decide (stb ps L M) = true then .next else .ret (.bool false)) σ' ∧ ∃ x2 x3, σ' = ⟨sVs (.dict (dictV ps L)) (dP P) x2 x3, pl⟩ := by
    refine tr_for_dict_ret (f := nm) (fun σ => ∃ x2 x3, σ = ⟨sVs (.dict (dictV ps L)) (dP P) x2 x3, pl⟩) (stbAt L M) (l := ps) decide_eq_true_iff (tr_name (i := 0) (by rfl) (by rfl)) dictV_keys ⟨none, none, rfl⟩ ?_ (fun _ _ => rfl)
    rintro i σ hi ⟨x2, x3, rfl⟩
    have hin : ∃ σ', TrS c (k + 1) (fdScope S_stable) ⟨sVs (.dict (dictV ps L)) (dP P) (some (.val (nv i))) x3, pl⟩ (nthS 0 (bodyOf (nthS 0 (fdBody S_stable)))) (if decide (stbAt L M i) = true then .next else .ret (.bool false)) σ' ∧ ∃ x3, σ' = ⟨sVs (.dict (dictV ps L)) (dP P) (some (.val (nv i))) x3, pl⟩ := by
      refine tr_for_ret (f := nv) (fun σ => ∃ x3, σ = ⟨sVs (.dict (dictV ps L)) (dP P) (some (.val (nv i))) x3, pl⟩) (stbOne L M i) (l := (L i).take ((L i).idxOf (M i))) decide_eq_true_iff ((tr_slice (nl := none) (nh := some ((L i).idxOf (M i))) (xs := (L i).map nv) (tr_item_dict (x := nm i) (tr_name (i := 0) (by rfl) (by rfl)) (tr_name (i := 2) (by rfl) (by rfl)) (dictV_lookup hi) (fun _ _ _ => rfl)) part_none
        (part_some (tr_index eqNv (by decide) (l := L i) (a := M i) (tr_item_dict (x := nm i) (tr_name (i := 0) (by rfl) (by rfl)) (tr_name (i := 2) (by rfl) (by rfl)) (dictV_lookup hi) (fun _ _ _ => rfl)) rfl (fun _ => rfl) (tr_item_dict (x := nm i) (tr_name (i := 1) (p := dP P) (by rfl) (by rfl)) (tr_name (i := 2) (by rfl) (by rfl)) (hM.lk i hi) (fun _ _ _ => rfl)) rfl (hml i hi) (fun _ => rfl) rfl) rfl) (.inl rfl)).toE.to (by simp only [sliceOf, List.map_take])) rfl ⟨x3, rfl⟩ ?_ (fun _ _ => rfl)
      rintro j σ hj ⟨x3, rfl⟩
      have hjL : j ∈ L i := List.mem_of_mem_take hj
      have hjp := hL.mem _ _ hjL
      have hij := hL.sym i hi j hjL
      have test : ∀ b, decide ((L j).idxOf i < (L j).idxOf (M j)) = b → TrT c (k + 1) (fdScope S_stable) ⟨sVs (.dict (dictV ps L)) (dP P) (some (.val (nv i))) (some (.val (nv j))), pl⟩ (match nthS 0 (bodyOf (nthS 0 (bodyOf (nthS 0 (fdBody S_stable))))) with | .If t _ _ _ => t | _ => .Constant .none 0 ⟨0, 0, 0, 0⟩) b ⟨sVs (.dict (dictV ps L)) (dP P) (some (.val (nv i))) (some (.val (nv j))), pl⟩ := by
        intro b hb
        refine (trt_cmp (tr_index eqNv (by decide) (l := L j) (a := i) (tr_item_dict (x := nm j) (tr_name (i := 0) (by rfl) (by rfl)) (tr_name (i := 3) (by rfl) (by rfl)) (dictV_lookup hjp) (fun _ _ _ => rfl)) rfl (fun _ => rfl) (tr_name (i := 2) (p := nv i) (by rfl) (by rfl)) rfl hij (fun _ => rfl) rfl)
          (tr_index eqNv (by decide) (l := L j) (a := M j) (tr_item_dict (x := nm j) (tr_name (i := 0) (by rfl) (by rfl)) (tr_name (i := 3) (by rfl) (by rfl)) (dictV_lookup hjp) (fun _ _ _ => rfl)) rfl (fun _ => rfl) (tr_item_dict (x := nm j) (tr_name (i := 1) (p := dP P) (by rfl) (by rfl)) (tr_name (i := 3) (by rfl) (by rfl)) (hM.lk j hjp) (fun _ _ _ => rfl)) rfl (hml j hjp) (fun _ => rfl) rfl).toV cmp_lt_int rfl).to ?_
        rw [← hb]; apply decide_eq_decide.mpr; omega
      refine ⟨⟨sVs (.dict (dictV ps L)) (dP P) (some (.val (nv i))) (some (.val (nv j))), pl⟩, ⟨sVs (.dict (dictV ps L)) (dP P) (some (.val (nv i))) (some (.val (nv j))), pl⟩, (tra_name (by rfl) (by rfl)).to, ⟨_, rfl⟩, fun h => ?_, fun h => ?_⟩
      · exact trs_cons (tr_if (b := false) (test false (by simpa [stbOne] using h)) (fun q => by cases q) (fun _ => trs_nil)) trs_nil
      · exact trs_stop (tr_if (b := true) (test true (by simpa [stbOne] using h)) (fun _ => trs_stop (tr_return tr_bool) (by simp)) (fun q => by cases q)) (by simp)
    obtain ⟨σ', h1, x3', rfl⟩ := hin
    refine ⟨⟨sVs (.dict (dictV ps L)) (dP P) (some (.val (nv i))) x3, pl⟩, ⟨sVs (.dict (dictV ps L)) (dP P) (some (.val (nv i))) x3', pl⟩, (tra_name (by rfl) (by rfl)).to, ⟨_, _, rfl⟩, fun h => ?_, fun h => ?_⟩
    · rw [if_pos (decide_eq_true h)] at h1
      exact trs_cons h1 trs_nil
    · rw [if_neg (by simpa using h)] at h1
      exact trs_stop h1 (by simp)
  obtain ⟨σ', h1, x2, x3, rfl⟩ := key
  refine fn_intro (σ' := ⟨sVs (.dict (dictV ps L)) (dP P) x2 x3, pl⟩) hf rfl (by decide +kernel) (by decide +kernel) hk (fl := .ret _) ?_ (.inl rfl)
  have hvs : initVs (fdScope S_stable) (fdNames S_stable) [.dict (dictV ps L), dP P] = [some (.val (.dict (dictV ps L))), some (.val (dP P)), none, none] := by rfl
  rw [hvs]
  by_cases h : stb ps L M
  · rw [if_pos (decide_eq_true h)] at h1
    rw [decide_eq_true h]
    exact trs_cons h1 (trs_stop (tr_return tr_bool) (by simp))
  · rw [if_neg (by simpa using h)] at h1
    rw [decide_eq_false h]
    exact trs_stop h1 (by simp)
theorem left_spec (nd : c.mg "dict" = none) (hf : FnOk c a S_left) (hk : k + 1 ≤ 150) (ok : PsOk ps) (hps : ps.length ≤ 100) (hl : ∀ m, (pr m).length ≤ 1000) (hmem : ∀ x y, y ∈ pr x → y ∈ ps) :
    FnSpec c k a [.list (ps.map ob)] (plOf ps L pr mt) (.dict (dictV ps pr)) (plOf ps L pr mt) := by
  refine fn_intro (σ' := ⟨[some (.val (.list (ps.map ob))), none], plOf ps L pr mt⟩) hf rfl (by decide +kernel) (by decide +kernel) hk (fl := .ret _) ?_ (.inl rfl)
  have hvs : initVs (fdScope S_left) (fdNames S_left) [.list (ps.map ob)] = [some (.val (.list (ps.map ob))), none] := by rfl
  rw [hvs]
  refine trs_stop (tr_return (tr_dict (kvs := dictV ps pr) (by rfl) nd (fun _ => rfl) (tr_compf (l := ps) (f := ob) (val := fun i => .tup [nv i, .list ((pr i).map nv)]) (keep := fun _ => true) (Inv := fun vs => ∃ x y, vs = [x, y]) (tr_name (i := 0) (by rfl) (by rfl)) (.list _) rfl (by rfl) (by rfl) (by decide +kernel) ⟨_, _, rfl⟩ ?_ (by omega) (fun _ _ => rfl)) ?_ ?_ (by simp [dictV]; omega)).toD) (by simp)
  · rintro i hi vs ⟨x, y, rfl⟩
    refine ⟨[x, some (.val (ob i))], ⟨_, _, rfl⟩, (tra_name (by rfl) (by rfl)).to, ⟨rfl, rfl⟩, fun _ => ?_⟩
    refine tr_tuple (ps := [nv i, .list ((pr i).map nv)]) (tra_cons (fun _ => rfl) (tr_attr (i := i.val) (p := nv i) (tr_name (by rfl) (by rfl)) (plOf_get ok hi) (by decide +kernel) (by rfl) (fun _ => rfl)) (tra_cons (fun _ => rfl) ?_ tra_nil)) (by simp)
    refine (tr_compf (l := pr i) (f := ob) (val := nv) (keep := fun _ => true) (Inv := fun vs => ∃ x y, vs = [x, y]) (tr_attr (i := i.val) (tr_name (by rfl) (by rfl)) (plOf_get ok hi) (by decide +kernel) (by rfl) (fun _ => rfl)) (.list _) rfl (by rfl) (by rfl) (by decide +kernel) ⟨_, _, rfl⟩ ?_ (by have := hl i; omega) (fun _ _ => rfl)).to (by rw [filter_id (fun _ _ => rfl)])
    rintro j hj vs ⟨x, y, rfl⟩
    refine ⟨[x, some (.val (ob j))], ⟨_, _, rfl⟩, (tra_name (by rfl) (by rfl)).to, ⟨rfl, rfl⟩, fun _ => ?_⟩
    exact tr_attr (i := j.val) (p := nv j) (tr_name (by rfl) (by rfl)) (plOf_get ok (hmem i j hj)) (by decide +kernel) (by rfl) (fun _ => rfl)
  · rw [filter_id (fun _ _ => rfl)]; simp [dictV, Function.comp_def, nv]
  · rw [dictV_keys]
    exact List.pairwise_map.mpr (ok.nd.imp fun h e => h (nm_inj _ _ e))
def within (P : List (Pl × Pl)) (M : Pl → Pl) (T : Pl → List Pl) : Bool := P.all fun q => decide (M q.1 ∈ T q.1)
theorem within_spec (hf : FnOk c a S_within) (hk : k + 1 ≤ 150) {P : List (Pl × Pl)} {M : Pl → Pl} {T : Pl → List Pl} (hM : MateOk ps P M) (hPl : P.length ≤ 1000) :
    FnSpec c k a [dP P, .dict (dictV ps T)] pl (.bool (within P M T)) pl := by
  refine fn_intro (σ' := ⟨[some (.val (dP P)), some (.val (.dict (dictV ps T)))], pl⟩) hf rfl (by decide +kernel) (by decide +kernel) hk (fl := .ret _) ?_ (.inl rfl)
  have hvs : initVs (fdScope S_within) (fdNames S_within) [dP P, .dict (dictV ps T)] = [some (.val (dP P)), some (.val (.dict (dictV ps T)))] := by rfl
  rw [hvs]
  refine trs_stop (tr_return ((tr_cmp (tr_compf (l := P.map (·.1)) (f := nv) (val := nv) (keep := fun i => !decide (M i ∈ T i)) (Inv := fun vs => ∃ x y, vs = [x, y, some (.val (dP P)), some (.val (.dict (dictV ps T)))]) (p := dP P) (tr_name (i := 0) (by rfl) (by rfl)) (.dict _) ?_ (by rfl) (by rfl) (by decide +kernel) ⟨_, _, rfl⟩ ?_ (by simpa using by omega) (fun _ _ => rfl)) (tr_list (ps := []) tra_nil (by simp)).toE.toV cmp_eq_nil rfl).to ?_)) (by simp)
  · simp [keysPV, kvP, Function.comp_def, nv]
  · rintro i hi vs ⟨x, y, rfl⟩
    obtain ⟨q, hq, rfl⟩ := List.mem_map.mp hi
    have hip := hM.keys q hq
    refine ⟨[x, some (.val (nv q.1)), some (.val (dP P)), some (.val (.dict (dictV ps T)))], ⟨_, _, rfl⟩, (tra_name (by rfl) (by rfl)).to, ?_, fun _ => tr_name (by rfl) (by rfl)⟩
    exact (trt_cmpR (tr_item_dict (x := nm q.1) (tr_name (i := 2) (p := dP P) (by rfl) (by rfl)) (tr_name (i := 1) (p := nv q.1) (by rfl) (by rfl)) (hM.lk _ hip) (fun _ _ _ => rfl)) (tr_item_dict (x := nm q.1) (tr_name (i := 3) (by rfl) (by rfl)) (tr_name (i := 1) (p := nv q.1) (by rfl) (by rfl)) (dictV_lookup hip) (fun _ _ _ => rfl)).toV (cmpR_notin (x := M q.1) (l := T q.1) eqNv (by decide)) rfl).to (by congr)
  · congr 1
    rw [Bool.eq_iff_iff, List.isEmpty_map, List.isEmpty_iff, List.filter_eq_nil_iff]
    simp [within]
end
end RM
end
noncomputable section
namespace RM
def prN (p : Pl × Pl) : PV := .tup [nv p.1, nv p.2]
structure IsCyc (ps : List Pl) (T : Pl → List Pl) (cyc : List (Pl × Pl)) : Prop where
  ne : cyc ≠ []
  mem : ∀ p ∈ cyc, p.1 ∈ ps ∧ p.2 ∈ ps
  nd : (cyc.map (·.1)).Nodup
  top : ∀ i, i < cyc.length → (T (cyc.getD i (0, 0)).1).take 2 = [(cyc.getD i (0, 0)).2, (cyc.getD ((i + 1) % cyc.length) (0, 0)).2]
  last : ∀ p ∈ cyc, (T p.2).getLast? = some p.1
  len : cyc.length ≤ 100
section
variable {c : KB} {k : Nat} {ps : List Pl} {T : Pl → List Pl} {a : Addr} {pl : List PRec}
theorem cycle_spec (ne : c.mg "enumerate" = none) (nl : c.mg "len" = none) (nd : c.mg "dict" = none) (hf : FnOk c a S_cycle) (hk : k + 1 ≤ 150) {cyc : List (Pl × Pl)} (C : IsCyc ps T cyc) :
    FnSpec c k a [.dict (dictV ps T), .list (cyc.map prN)] pl (.bool true) pl := by
  let V (x2 x3 x4 x5 x6 : Option Bind) : List (Option Bind) := [some (.val (.dict (dictV ps T))), some (.val (.list (cyc.map prN))), x2, x3, x4, x5, x6, none, none, none]
  have hpos : 0 < cyc.length := by have := C.ne; cases cyc <;> simp_all
  have key : ∃ σ', TrS c (k + 1) (fdScope S_cycle) ⟨V none none (some (.val (.list ((cyc.map (·.1)).map nv)))) none none, pl⟩ (nthS 2 (fdBody S_cycle)) .next σ' ∧ ∃ x2 x3 x5 x6, σ' = ⟨V x2 x3 (some (.val (.list ((cyc.map (·.1)).map nv)))) x5 x6, pl⟩ := by
    refine tr_for_enum_inv prN (fun i σ' => ∃ x2 x3 x5 x6, σ' = ⟨V x2 x3 (some (.val (.list ((cyc.map (·.1)).map nv)))) x5 x6, pl⟩) (l := cyc) (by rfl) ne (fun _ => rfl) (tr_name (i := 1) (by rfl) (by rfl)) rfl ⟨none, none, none, none, rfl⟩ ?_
    rintro i σ hi ⟨x2, x3, x5, x6, rfl⟩
    have hq := getD_some (d := ((0 : Pl), (0 : Pl))) hi
    have hmem : cyc.getD i (0, 0) ∈ cyc := List.mem_of_getElem? hq
    have htop := C.top i hi
    have hnx : (i + 1) % cyc.length < cyc.length := Nat.mod_lt _ hpos
    have hq2 := getD_some (d := ((0 : Pl), (0 : Pl))) hnx
    generalize cyc.getD ((i + 1) % cyc.length) (0, 0) = q2 at htop hq2
    show ∃ σ₁ fl σ₂, TrA _ _ _ _ _ (.tup [.int (i : Nat), prN (cyc.getD i (0, 0))]) σ₁ ∧ _
    generalize cyc.getD i (0, 0) = q at hmem htop hq
    obtain ⟨l, r⟩ := q
    have hl := (C.mem _ hmem).1
    have hr := (C.mem _ hmem).2
    have hlast := C.last _ hmem
    refine ⟨⟨V (some (.val (nv l))) (some (.val (nv r))) (some (.val (.list ((cyc.map (·.1)).map nv)))) (some (.val (.int i))) x6, pl⟩, .next, ⟨V (some (.val (nv l))) (some (.val (nv r))) (some (.val (.list ((cyc.map (·.1)).map nv)))) (some (.val (.int i))) (some (.val (nv q2.2))), pl⟩, ?_, ?_, .inl rfl, _, _, _, _, rfl⟩
    · exact (tra_tuple (.cons (tra_name (by rfl) (by rfl)) (.cons (tra_tuple (.cons (tra_name (by rfl) (by rfl)) (.cons (tra_name (by rfl) (by rfl)) .nil)) (fun _ => rfl)) .nil)) (fun _ => rfl)).to rfl
    · refine trs_cons ((tr_assign (tr_item_tup (j := 1) (xs := [nv q2.1, nv q2.2]) (tr_item (xs := cyc.map prN) (j := (i + 1) % cyc.length) (tr_name (i := 1) (by rfl) (by rfl)) ((tr_mod (tr_add (tr_name (i := 5) (p := .int i) (by rfl) (by rfl)) tr_int) (tr_len (xs := cyc.map prN) (by rfl) nl (fun _ => rfl) (tr_name (i := 1) (by rfl) (by rfl)).toV) (by rw [List.length_map]; omega)).to (by rw [List.length_map]; congr 1)) (by rw [List.getElem?_map, hq2]; rfl) (fun _ _ _ => rfl)) tr_int rfl (fun _ _ _ => rfl)) (by rfl) (by rfl) (fun _ => rfl)).to (σ'' := ⟨V (some (.val (nv l))) (some (.val (nv r))) (some (.val (.list ((cyc.map (·.1)).map nv)))) (some (.val (.int i))) (some (.val (nv q2.2))), pl⟩) rfl) ?_
      refine trs_cons (tr_if (b := false || false) (trt_or ?_ (fun _ => ?_)) (fun h => by cases h) (fun _ => trs_nil)) trs_nil
      · refine (trt_cmpR (p := .list ((T l).take 2 |>.map nv)) ((tr_slice (nl := none) (nh := some 2) (xs := (T l).map nv) (tr_item_dict (x := nm l) (tr_name (i := 0) (by rfl) (by rfl)) (tr_name (i := 2) (p := nv l) (by rfl) (by rfl)) (dictV_lookup hl) (fun _ _ _ => rfl)) part_none (part_some tr_int rfl) (.inl rfl)).toE.to (by simp only [sliceOf, List.map_take])) (tr_list (ps := [nv r, nv q2.2]) (tra_cons (fun _ => rfl) (tr_name (i := 3) (p := nv r) (by rfl) (by rfl)) (tra_cons (fun _ => rfl) (tr_name (i := 6) (p := nv q2.2) (by rfl) (by rfl)) tra_nil)) (by simp)).toE.toV (CmpPV.toR (cmp_ne_list (l := (T l).take 2) (l' := [r, q2.2]) eqNv (by decide))) rfl).to ?_
        rw [htop]; simp
      · refine (trt_cmp (tr_item_last (xs := (T r).map nv) (p := .str (nm l)) (tr_item_dict (x := nm r) (tr_name (i := 0) (by rfl) (by rfl)) (tr_name (i := 3) (p := nv r) (by rfl) (by rfl)) (dictV_lookup hr) (fun _ _ _ => rfl)) (tr_neg tr_int) (by rw [List.getLast?_map, hlast]; rfl) (fun _ _ _ => rfl)) (tr_name (i := 2) (p := .str (nm l)) (by rfl) (by rfl)).toV cmp_ne_str rfl).to (by simp)
  obtain ⟨σ', h1, x2, x3, x5, x6, rfl⟩ := key
  refine fn_intro (σ' := ⟨V x2 x3 (some (.val (.list ((cyc.map (·.1)).map nv)))) x5 x6, pl⟩) hf rfl (by decide +kernel) (by decide +kernel) hk (fl := .ret _) ?_ (.inl rfl)
  have hvs : initVs (fdScope S_cycle) (fdNames S_cycle) [.dict (dictV ps T), .list (cyc.map prN)] = V none none none none none := by rfl
  rw [hvs]
  refine trs_cons ((tr_assign_compf (l := cyc) (f := prN) (val := fun q => nv q.1) (keep := fun _ => true) (Inv := fun vs => ∃ x y z, vs = [x, y, z]) (by rfl) (by rfl) (tr_name (i := 1) (by rfl) (by rfl)) (.list _) rfl (by rfl) (by rfl) (by decide +kernel) ⟨_, _, _, rfl⟩ ?_ (by have := C.len; omega) (fun _ _ => rfl)).to (σ'' := ⟨V none none (some (.val (.list ((cyc.map (·.1)).map nv)))) none none, pl⟩) (by rw [filter_id (fun _ _ => rfl)]; simp [V, St.set])) ?_
  · rintro q - vs ⟨x, y, z, rfl⟩
    refine ⟨[x, some (.val (nv q.1)), some (.val (nv q.2))], ⟨_, _, _, rfl⟩, ((tra_tuple (.cons (tra_name (by rfl) (by rfl)) (.cons (tra_name (by rfl) (by rfl)) .nil)) (fun _ => rfl)).to rfl), ⟨rfl, rfl⟩, fun _ => tr_name (i := 1) (by rfl) (by rfl)⟩
  · refine trs_cons (tr_if (b := false || false) (σ₁ := ⟨V none none (some (.val (.list ((cyc.map (·.1)).map nv)))) none none, pl⟩) (trt_or ?_ (fun _ => ?_)) (fun h => by cases h) (fun _ => trs_nil)) ?_
    · exact (trt_cmp (tr_name (i := 1) (p := .list (cyc.map prN)) (by rfl) (by rfl)) (tr_list (ps := []) tra_nil (by simp)).toE.toV cmp_eq_nil rfl).to (by have := C.ne; cases cyc <;> simp_all)
    · refine (trt_cmp (tr_len (xs := (cyc.map (·.1)).map nv) (by rfl) nl (fun _ => rfl) (tr_name (i := 4) (by rfl) (by rfl)).toV) (tr_len_dict (kvs := cyc.map fun q => (nm q.1, .int 0)) (by rfl) nl (fun _ => rfl) (tr_dict (by rfl) nd (fun _ => rfl) (tr_compf (l := cyc.map (·.1)) (f := nv) (val := fun i => .tup [nv i, .int 0]) (keep := fun _ => true) (Inv := fun vs => ∃ x y, vs = [x, y]) (tr_name (i := 4) (by rfl) (by rfl)) (.list _) rfl (by rfl) (by rfl) (by decide +kernel) ⟨_, _, rfl⟩ ?_ (by have := C.len; simpa using by omega) (fun _ _ => rfl)) ?_ ?_ ?_).toD).toV cmp_ne_int rfl).to ?_
      · rintro i - vs ⟨x, y, rfl⟩
        exact ⟨[x, some (.val (nv i))], ⟨_, _, rfl⟩, (tra_name (by rfl) (by rfl)).to, ⟨rfl, rfl⟩, fun _ => tr_tuple (ps := [nv i, .int 0]) (tra_cons (fun _ => rfl) (tr_name (i := 1) (by rfl) (by rfl)) (tra_cons (fun _ => rfl) tr_int tra_nil)) (by simp)⟩
      · rw [filter_id (fun _ _ => rfl)]; simp [Function.comp_def, nv]
      · have : ((cyc.map fun q => (nm q.1, PV.int 0)).map (·.1)) = (cyc.map (·.1)).map nm := by simp [Function.comp_def]
        rw [this]
        exact List.pairwise_map.mpr (C.nd.imp fun h e => h (nm_inj _ _ e))
      · have := C.len; simp; omega
      · simp
    · exact trs_cons h1 (trs_stop (tr_return tr_bool) (by simp))
end
end RM
end
noncomputable section
namespace RM
def srt2 (x y : Pl) : List Pl := if x.val < y.val then [x, y] else [y, x]
def lV (l : List Pl) : PV := .list (l.map nv)
theorem eqLV {c : KB} : EqEmb c 1 lV := eqEmb_list eqNv
theorem sorted2 : ∀ x y : Pl, sortedS [nm x, nm y] = decide (x.val ≤ y.val) := by decide +kernel
theorem perm2 {α : Type} {l : List α} {a b : α} (h : l.Perm [a, b]) : l = [a, b] ∨ l = [b, a] := by
  match l, h.length_eq with
  | [p, q], _ =>
    have ha : a ∈ [p, q] := h.mem_iff.mpr (by simp)
    rcases List.mem_cons.mp ha with rfl | h2
    · have := (List.perm_cons _).mp h
      have h3 := this.length_eq
      have : q = b := by have := List.perm_singleton.mp this; simpa using this
      subst this; exact .inl rfl
    · have hq : a = q := by simpa using h2
      subst hq
      have := (List.Perm.swap a p []).symm.trans h
      have : [p] = [b] := by
        have h4 : [a, p].Perm [a, b] := (List.Perm.swap p a []).trans h
        have := (List.perm_cons _).mp h4
        exact List.perm_singleton.mp this
      simp at this; subst this; exact .inr rfl
theorem srt2_uniq (x y : Pl) (hxy : x ≠ y) : ∀ ss', ss'.Perm [nm x, nm y] → sortedS ss' = true → ss' = (srt2 x y).map nm := by
  intro ss' hp hs
  have hv : x.val ≠ y.val := fun e => hxy (Fin.ext e)
  rcases perm2 hp with rfl | rfl
  · rw [sorted2, decide_eq_true_iff] at hs
    unfold srt2; rw [if_pos (by omega)]; rfl
  · rw [sorted2, decide_eq_true_iff] at hs
    unfold srt2; rw [if_neg (by omega)]; rfl
def addD (r : Pl) (acc : List (List Pl)) (s : Pl) : List (List Pl) := if srt2 r s ∈ acc then acc else acc ++ [srt2 r s]
def dueUp (T : Pl → List Pl) (cyc : List (Pl × Pl)) : Nat → List (List Pl)
  | 0 => []
  | i + 1 => (behind T cyc i).foldl (addD (cyc.getD i (0, 0)).2) (dueUp T cyc i)
theorem addD_len (r : Pl) (acc : List (List Pl)) (s : Pl) : (addD r acc s).length ≤ acc.length + 1 := by unfold addD; split <;> simp
theorem foldl_addD_len (r : Pl) : ∀ (l : List Pl) (acc : List (List Pl)), (l.foldl (addD r) acc).length ≤ acc.length + l.length
  | [], acc => by simp
  | s :: l, acc => by
    have := foldl_addD_len r l (addD r acc s)
    have := addD_len r acc s
    simp only [List.foldl_cons, List.length_cons]; omega
theorem prevL_cases {cyc : List (Pl × Pl)} {i : Nat} (hi : i < cyc.length) : (i = 0 ∧ cyc.getLast? = some (cyc.getD (cyc.length - 1) (0, 0)) ∧ prevL cyc i = (cyc.getD (cyc.length - 1) (0, 0)).1) ∨ (0 < i ∧ prevL cyc i = (cyc.getD (i - 1) (0, 0)).1) := by
  have hpos : (0 : Int) < cyc.length := by omega
  rcases Nat.eq_zero_or_pos i with rfl | h
  · refine .inl ⟨rfl, ?_, ?_⟩
    · rw [List.getLast?_eq_getElem?]; exact getD_some (by omega)
    · unfold prevL
      have : (((0 : Nat) : Int) - 1).fmod (cyc.length : Int) = (cyc.length - 1 : Nat) := by
        rw [Int.fmod_eq_emod_of_nonneg _ (by omega), Int.emod_eq_add_self_emod, Int.emod_eq_of_lt (by omega) (by omega)]; omega
      rw [this]; rfl
  · refine .inr ⟨h, ?_⟩
    unfold prevL
    have : ((i : Int) - 1).fmod (cyc.length : Int) = (i - 1 : Nat) := by
      rw [Int.fmod_eq_emod_of_nonneg _ (by omega), Int.emod_eq_of_lt (by omega) (by omega)]; omega
    rw [this]; rfl
def kVs (t cy pa st : PV) (x4 x5 x6 x7 x8 x9 x10 x11 x12 x13 : Option Bind) : List (Option Bind) :=
  [some (.val t), some (.val cy), some (.val pa), some (.val st), x4, x5, x6, x7, x8, x9, x10, x11, x12, x13, none, none, none, none, none, none]
structure DueOk (ps : List Pl) (T : Pl → List Pl) (cyc : List (Pl × Pl)) : Prop where
  mem : ∀ p ∈ cyc, p.1 ∈ ps ∧ p.2 ∈ ps
  prev : ∀ i, i < cyc.length → prevL cyc i ∈ T (cyc.getD i (0, 0)).2
  len : cyc.length ≤ 100
  lens : ∀ m, (T m).length ≤ 100
  irr : ∀ m, m ∉ T m
section
variable {c : KB} {k : Nat} {ps : List Pl} {T : Pl → List Pl} {a : Addr} {pl : List PRec}
theorem tr_srt2 {sc : Scope} {σ : St} {p' lp pos : Pos} {e1 e2 : Expr} {x y : Pl} {i : Nat} (hi : vloc sc "sorted" = some (i, .globalImplicit)) (hg : c.mg "sorted" = none) (hp : PlainArgs [.List [e1, e2] lp]) (hp2 : ∀ env, starEach [e1, e2] env = [(false, eval e1 env), (false, eval e2 env)]) (hp3 : ∀ env, starEach [e2] env = [(false, eval e2 env)]) (h1 : TrE c k sc σ e1 (nv x) σ) (h2 : TrE c k sc σ e2 (nv y) σ) (hxy : x ≠ y) :
    TrE c k sc σ (.Call (.Name "sorted" p') [.List [e1, e2] lp] [] pos) (lV (srt2 x y)) σ := by
  refine (tr_sorted_strs (ss := [nm x, nm y]) (out := (srt2 x y).map nm) hi hg hp (tr_list (ps := [nv x, nv y]) (tra_cons (fun env => by rw [hp2, hp3]) h1 (tra_cons (fun env => by rw [hp3]; rfl) h2 tra_nil)) (by simp)).toE (.inl rfl) (by simp) (srt2_uniq x y hxy)).toE.to ?_
  simp [lV, List.map_map, Function.comp_def, nv]
theorem due_loop (ne : c.mg "enumerate" = none) (ns : c.mg "sorted" = none) {cyc : List (Pl × Pl)} (C : DueOk ps T cyc) {pa st : PV} {x10 x11 x12 x13 : Option Bind} :
    ∃ x5 x6 x7 x8 x9, TrS c k (fdScope S_taken) ⟨kVs (.dict (dictV ps T)) (.list (cyc.map prN)) pa st (some (.lst [])) none none none none none x10 x11 x12 x13, pl⟩ (nthS 1 (fdBody S_taken)) .next
      ⟨kVs (.dict (dictV ps T)) (.list (cyc.map prN)) pa st (some (.lst ((dueUp T cyc cyc.length).map lV))) x5 x6 x7 x8 x9 x10 x11 x12 x13, pl⟩ := by
  have hup : ∀ i, i ≤ cyc.length → (dueUp T cyc i).length ≤ i * 100 := by
    intro i
    induction i with
    | zero => intro _; simp [dueUp]
    | succ i ih =>
      intro hi
      have h1 := ih (by omega)
      have h2 := foldl_addD_len (cyc.getD i (0, 0)).2 (behind T cyc i) (dueUp T cyc i)
      have h3 : (behind T cyc i).length ≤ 100 := by have := C.lens (cyc.getD i (0, 0)).2; unfold behind; rw [List.length_drop]; omega
      show (List.foldl (addD (cyc.getD i (0, 0)).2) (dueUp T cyc i) (behind T cyc i)).length ≤ _
      omega
  have key : ∃ σ', TrS c k (fdScope S_taken) ⟨kVs (.dict (dictV ps T)) (.list (cyc.map prN)) pa st (some (.lst [])) none none none none none x10 x11 x12 x13, pl⟩ (nthS 1 (fdBody S_taken)) .next σ' ∧
      ∃ x5 x6 x7 x8 x9, σ' = ⟨kVs (.dict (dictV ps T)) (.list (cyc.map prN)) pa st (some (.lst ((dueUp T cyc cyc.length).map lV))) x5 x6 x7 x8 x9 x10 x11 x12 x13, pl⟩ := by
    refine tr_for_enum_inv prN (fun i σ' => ∃ x5 x6 x7 x8 x9, σ' = ⟨kVs (.dict (dictV ps T)) (.list (cyc.map prN)) pa st (some (.lst ((dueUp T cyc i).map lV))) x5 x6 x7 x8 x9 x10 x11 x12 x13, pl⟩) (l := cyc) (by rfl) ne (fun _ => rfl) (tr_name (i := 1) (by rfl) (by rfl)) rfl ⟨none, none, none, none, none, rfl⟩ ?_
    rintro i σ hi ⟨x5, x6, x7, x8, x9, rfl⟩
    show ∃ σ₁ fl σ₂, TrA _ _ _ _ _ (.tup [.int (i : Nat), prN (cyc.getD i (0, 0))]) σ₁ ∧ _
    have hmem : cyc.getD i (0, 0) ∈ cyc := by have := getD_some (d := ((0 : Pl), (0 : Pl))) hi; exact List.mem_of_getElem? this
    have hprev := C.prev i hi
    have hsub : ∀ s ∈ behind T cyc i, s ∈ T (cyc.getD i (0, 0)).2 := fun s hs => List.mem_of_mem_drop hs
    have hbl : (behind T cyc i).length ≤ 100 := by have := C.lens (cyc.getD i (0, 0)).2; unfold behind; rw [List.length_drop]; omega
    have hbeh : behind T cyc i = (T (cyc.getD i (0, 0)).2).drop ((T (cyc.getD i (0, 0)).2).idxOf (prevL cyc i) + 1) := rfl
    have hnext : dueUp T cyc (i + 1) = (behind T cyc i).foldl (addD (cyc.getD i (0, 0)).2) (dueUp T cyc i) := rfl
    have hupi := hup i (by omega)
    generalize hq : cyc.getD i (0, 0) = q at hmem hprev hsub hbeh hnext
    generalize dueUp T cyc i = acc0 at hupi hnext
    generalize behind T cyc i = S at hsub hbl hbeh hnext
    obtain ⟨l, r⟩ := q
    have hr := (C.mem _ hmem).2
    have hinner : ∃ σ', TrS c k (fdScope S_taken) ⟨kVs (.dict (dictV ps T)) (.list (cyc.map prN)) pa st (some (.lst (acc0.map lV))) (some (.val (.int i))) (some (.val (nv l))) (some (.val (nv r))) (some (.val (nv (prevL cyc i)))) x9 x10 x11 x12 x13, pl⟩ (nthS 1 (bodyOf (nthS 1 (fdBody S_taken)))) .next σ' ∧
        ∃ x9, σ' = ⟨kVs (.dict (dictV ps T)) (.list (cyc.map prN)) pa st (some (.lst ((S.foldl (addD r) acc0).map lV))) (some (.val (.int i))) (some (.val (nv l))) (some (.val (nv r))) (some (.val (nv (prevL cyc i)))) x9 x10 x11 x12 x13, pl⟩ := by
      refine tr_for_inv (f := nv) (fun D σ' => ∃ x9, σ' = ⟨kVs (.dict (dictV ps T)) (.list (cyc.map prN)) pa st (some (.lst ((D.foldl (addD r) acc0).map lV))) (some (.val (.int i))) (some (.val (nv l))) (some (.val (nv r))) (some (.val (nv (prevL cyc i)))) x9 x10 x11 x12 x13, pl⟩) (l := S)
        ((tr_slice (nl := some ((T r).idxOf (prevL cyc i) + 1)) (nh := none) (xs := (T r).map nv) (tr_item_dict (x := nm r) (tr_name (i := 0) (by rfl) (by rfl)) (tr_name (i := 7) (p := nv r) (by rfl) (by rfl)) (dictV_lookup hr) (fun _ _ _ => rfl)) (part_some (tr_add (tr_index eqNv (by decide) (l := T r) (a := prevL cyc i) (tr_item_dict (x := nm r) (tr_name (i := 0) (by rfl) (by rfl)) (tr_name (i := 7) (p := nv r) (by rfl) (by rfl)) (dictV_lookup hr) (fun _ _ _ => rfl)) rfl (fun _ => rfl) (tr_name (i := 8) (by rfl) (by rfl)) rfl hprev (fun _ => rfl) rfl) tr_int) (by push_cast; rfl)) part_none (.inr rfl)).toE.to (p' := .list (S.map nv)) (by rw [hbeh]; simp only [sliceOf, List.map_drop])) rfl ⟨x9, rfl⟩ ?_ (fun _ _ => rfl)
      rintro s D rest σ hS ⟨x9, rfl⟩
      have hsT := hsub s (by rw [hS]; simp)
      have hrs : r ≠ s := fun e => C.irr r (by simpa [e] using hsT)
      have hlen := foldl_addD_len r D acc0
      have hSl : D.length ≤ S.length := by rw [hS]; simp
      have hfold : (D ++ [s]).foldl (addD r) acc0 = addD r (D.foldl (addD r) acc0) s := by rw [List.foldl_append]; rfl
      generalize D.foldl (addD r) acc0 = acc at hlen hfold
      have hsrt : ∀ (acc : List (List Pl)), TrE c k (fdScope S_taken) ⟨kVs (.dict (dictV ps T)) (.list (cyc.map prN)) pa st (some (.lst (acc.map lV))) (some (.val (.int i))) (some (.val (nv l))) (some (.val (nv r))) (some (.val (nv (prevL cyc i)))) (some (.val (nv s))) x10 x11 x12 x13, pl⟩ (match nthS 0 (bodyOf (nthS 1 (bodyOf (nthS 1 (fdBody S_taken))))) with | .If (.Compare e _ _ _) _ _ _ => e | _ => .Constant .none 0 ⟨0, 0, 0, 0⟩) (lV (srt2 r s)) ⟨kVs (.dict (dictV ps T)) (.list (cyc.map prN)) pa st (some (.lst (acc.map lV))) (some (.val (.int i))) (some (.val (nv l))) (some (.val (nv r))) (some (.val (nv (prevL cyc i)))) (some (.val (nv s))) x10 x11 x12 x13, pl⟩ := fun acc =>
        tr_srt2 (by rfl) ns (fun _ => rfl) (fun _ => rfl) (fun _ => rfl) (tr_name (i := 7) (by rfl) (by rfl)) (tr_name (i := 9) (by rfl) (by rfl)) hrs
      refine ⟨⟨kVs (.dict (dictV ps T)) (.list (cyc.map prN)) pa st (some (.lst (acc.map lV))) (some (.val (.int i))) (some (.val (nv l))) (some (.val (nv r))) (some (.val (nv (prevL cyc i)))) (some (.val (nv s))) x10 x11 x12 x13, pl⟩, .next, _, (tra_name (by rfl) (by rfl)).to, ?_, .inl rfl, some (.val (nv s)), rfl⟩
      refine trs_cons (tr_if (b := !decide (srt2 r s ∈ acc)) ((trt_cmpR (hsrt acc) (trv_own (by rfl) (by rfl)) (cmpR_notin (x := srt2 r s) (l := acc) eqLV (by decide)) rfl).to (by congr)) (fun hb => ?_) (fun hb => ?_)) trs_nil
      · have hb' : srt2 r s ∉ acc := by simpa using hb
        refine trs_cons ((tr_expr' (tr_append (xs := acc.map lV) (by rfl) (by rfl) (fun _ => rfl) (tr_srt2 (x := r) (y := s) (by rfl) ns (fun _ => rfl) (fun _ => rfl) (fun _ => rfl) (tr_name (i := 7) (by rfl) (by rfl)) (tr_name (i := 9) (by rfl) (by rfl)) hrs) (by rfl) rfl (by rw [List.length_map, sizeLine_eq]; have := C.len; omega)) (fun _ => rfl)).to ?_) trs_nil
        rw [hfold]; unfold addD; rw [if_neg hb']; simp [kVs, St.set]
      · have hb' : srt2 r s ∈ acc := by simpa using hb
        refine trs_nil.to ?_
        rw [hfold]; unfold addD; rw [if_pos hb']
    obtain ⟨σ', h1, y9, rfl⟩ := hinner
    refine ⟨⟨kVs (.dict (dictV ps T)) (.list (cyc.map prN)) pa st (some (.lst (acc0.map lV))) (some (.val (.int i))) (some (.val (nv l))) (some (.val (nv r))) x8 x9 x10 x11 x12 x13, pl⟩, .next, ⟨kVs (.dict (dictV ps T)) (.list (cyc.map prN)) pa st (some (.lst ((S.foldl (addD r) acc0).map lV))) (some (.val (.int i))) (some (.val (nv l))) (some (.val (nv r))) (some (.val (nv (prevL cyc i)))) y9 x10 x11 x12 x13, pl⟩, ?_, ?_, .inl rfl, _, _, _, _, _, by rw [hnext]⟩
    · exact (tra_tuple (.cons (tra_name (by rfl) (by rfl)) (.cons (tra_tuple (.cons (tra_name (by rfl) (by rfl)) (.cons (tra_name (by rfl) (by rfl)) .nil)) (fun _ => rfl)) .nil)) (fun _ => rfl)).to rfl
    · refine trs_cons (TrS.to (σ' := ⟨kVs (.dict (dictV ps T)) (.list (cyc.map prN)) pa st (some (.lst (acc0.map lV))) (some (.val (.int i))) (some (.val (nv l))) (some (.val (nv r))) (some (.val (nv (prevL cyc i)))) x9 x10 x11 x12 x13, pl⟩) ?_ rfl) (trs_cons h1 trs_nil)
      rcases prevL_cases hi with ⟨rfl, hlast, hpv⟩ | ⟨hi0, hpv⟩
      · rw [hpv]
        exact (tr_assign (tr_item_tup (j := 0) (xs := [nv (cyc.getD (cyc.length - 1) (0, 0)).1, nv (cyc.getD (cyc.length - 1) (0, 0)).2]) (tr_item_last (xs := cyc.map prN) (tr_name (i := 1) (by rfl) (by rfl)) ((tr_sub (tr_name (i := 5) (p := .int ((0 : Nat) : Int)) (by rfl) (by rfl)) tr_int).to rfl) (by rw [List.getLast?_map, hlast]; rfl) (fun _ _ _ => rfl)) tr_int rfl (fun _ _ _ => rfl)) (by rfl) (by rfl) (fun _ => rfl)).to rfl
      · rw [hpv]
        exact (tr_assign (tr_item_tup (j := 0) (xs := [nv (cyc.getD (i - 1) (0, 0)).1, nv (cyc.getD (i - 1) (0, 0)).2]) (tr_item (j := i - 1) (xs := cyc.map prN) (tr_name (i := 1) (by rfl) (by rfl)) ((tr_sub (tr_name (i := 5) (p := .int (i : Int)) (by rfl) (by rfl)) tr_int).to (by congr 1; omega)) (by rw [List.getElem?_map, getD_some (d := ((0 : Pl), (0 : Pl))) (by omega)]; rfl) (fun _ _ _ => rfl)) tr_int rfl (fun _ _ _ => rfl)) (by rfl) (by rfl) (fun _ => rfl)).to rfl
  obtain ⟨σ', h1, x5, x6, x7, x8, x9, rfl⟩ := key
  exact ⟨x5, x6, x7, x8, x9, h1⟩
end
end RM
end
noncomputable section
namespace RM
def lessT (T : Pl → List Pl) (due : List (List Pl)) (x : Pl) : List Pl := (T x).filter fun y => !decide (srt2 x y ∈ due)
def mf (P : List (Pl × Pl)) (i : Pl) : Pl := (P.lookup i).getD 0
def haveN (cyc : List (Pl × Pl)) (M : Pl → Pl) : Nat := (cyc.filter fun q => decide (M q.1 = q.2)).length
structure Taken (ps : List Pl) (T : Pl → List Pl) (cyc : List (Pl × Pl)) (due : List (List Pl)) (S : List (List (Pl × Pl))) : Prop where
  mate : ∀ P ∈ S, MateOk ps P (mf P) ∧ P.length ≤ 1000
  all : ∀ P ∈ S, within P (mf P) T = true → (haveN cyc (mf P) = 0 ∨ haveN cyc (mf P) = cyc.length) ∧ within P (mf P) (lessT T due) = decide (haveN cyc (mf P) = 0)
  left : (∃ P ∈ S, within P (mf P) T = true) → ∃ P ∈ S, within P (mf P) T = true ∧ within P (mf P) (lessT T due) = true
  back : (∀ i ∈ ps, lessT T due i ≠ []) → ∀ i ∈ ps, ∃ x, (lessT T due i).head? = some x ∧ x ∈ ps ∧ (lessT T due x).getLast? = some i
theorem lV_eq (d : List Pl) : lV d = embL (d.map nm) := by simp [lV, embL, List.map_map, Function.comp_def, nv]
theorem srt2_len (x y : Pl) : (srt2 x y).length = 2 := by unfold srt2; split <;> rfl
section
variable {c : KB} {k : Nat} {ps : List Pl} {T : Pl → List Pl} {a : Addr} {pl : List PRec}
theorem taken_if1 (ns : c.mg "sorted" = none) {t cy : PV} {X : List (Pl × Pl)} {st : PV} {due : List (List Pl)} (hX : X.map (fun q => srt2 q.1 q.2) = due) (hne : ∀ q ∈ X, q.1 ≠ q.2) (hl : due.length < 64) {x5 x6 x7 x8 x9 x10 x11 x12 x13 : Option Bind} :
    TrS c k (fdScope S_taken) ⟨kVs t cy (.list (X.map prN)) st (some (.lst (due.map lV))) x5 x6 x7 x8 x9 x10 x11 x12 x13, pl⟩ (nthS 2 (fdBody S_taken)) .next ⟨kVs t cy (.list (X.map prN)) st (some (.lst (due.map lV))) x5 x6 x7 x8 x9 x10 x11 x12 x13, pl⟩ := by
  have hd : due.map lV = (due.map fun d => d.map nm).map embL := by rw [List.map_map]; exact List.map_congr_left fun d _ => lV_eq d
  have h2 : ∀ x ∈ due.map (fun d => d.map nm), x.length = 2 := by
    intro x hx
    obtain ⟨d, hd, rfl⟩ := List.mem_map.mp hx
    rw [← hX] at hd
    obtain ⟨q, _, rfl⟩ := List.mem_map.mp hd
    rw [List.length_map, srt2_len]
  have hll : (due.map fun d => d.map nm).length < 64 := by rw [List.length_map]; exact hl
  refine tr_if (b := false) ((trt_cmpR (tr_sorted_lists (m := 2) (l := due.map fun d => d.map nm) (xs := due.map lV) (by rfl) ns (fun _ => rfl) (TrE.toV ((tr_compf (l := X) (f := prN) (val := fun q => lV (srt2 q.1 q.2)) (keep := fun _ => true) (Inv := fun vs => ∃ x y, vs = [x, y, none]) (tr_name (i := 2) (by rfl) (by rfl)) (.list _) rfl (by rfl) (by rfl) (by decide +kernel) ⟨_, _, rfl⟩ ?_ ?_ (fun _ _ => rfl)).to ?_)) hd hll h2).toE (tr_sorted_lists (m := 2) (l := due.map fun d => d.map nm) (xs := due.map lV) (by rfl) ns (fun _ => rfl) (trv_own (i := 4) (by rfl) (by rfl)) hd hll h2).toE.toV (CmpPV.toR (cmp_ne_list eqEmb_embL (by decide))) rfl).to (by simp)) (fun q => by cases q) (fun _ => trs_nil)
  · rintro q hq vs ⟨x, y, rfl⟩
    refine ⟨[x, some (.val (prN q)), none], ⟨_, _, rfl⟩, (tra_name (by rfl) (by rfl)).to, ⟨rfl, rfl⟩, fun _ => ?_⟩
    refine (tr_sorted_strs (ss := [nm q.1, nm q.2]) (out := (srt2 q.1 q.2).map nm) (by rfl) ns (fun _ => rfl) (tr_name (i := 1) (p := prN q) (by rfl) (by rfl)) (.inr rfl) (by simp) (srt2_uniq q.1 q.2 (hne q hq))).toE.to ?_
    rw [lV_eq]; rfl
  · have : X.length = due.length := by rw [← hX, List.length_map]
    omega
  · rw [filter_id (fun _ _ => rfl), ← hX, List.map_map]; rfl
theorem taken_less (ns : c.mg "sorted" = none) (nd : c.mg "dict" = none) {cy pa st : PV} {due : List (List Pl)} (hnd : (ps.map nm).Nodup) (hps : ps.length ≤ 100) (hlen : ∀ m, (T m).length ≤ 1000) (hirr : ∀ m, m ∉ T m) {x5 x6 x7 x8 x9 x10 x11 x12 x13 : Option Bind} :
    TrS c k (fdScope S_taken) ⟨kVs (.dict (dictV ps T)) cy pa st (some (.val (.list (due.map lV)))) x5 x6 x7 x8 x9 x10 x11 x12 x13, pl⟩ (nthS 3 (fdBody S_taken)) .next ⟨kVs (.dict (dictV ps T)) cy pa st (some (.val (.list (due.map lV)))) x5 x6 x7 x8 x9 (some (.val (.dict (dictV ps (lessT T due))))) x11 x12 x13, pl⟩ := by
  refine (tr_assign ((tr_dict (kvs := dictV ps (lessT T due)) (by rfl) nd (fun _ => rfl) (tr_compf (l := ps) (f := nv) (val := fun i => .tup [nv i, .list ((lessT T due i).map nv)]) (keep := fun _ => true) (Inv := fun vs => ∃ x y, vs = [x, y, some (.val (.list (due.map lV))), some (.val (.dict (dictV ps T)))]) (tr_name (i := 0) (p := .dict (dictV ps T)) (by rfl) (by rfl)) (.dict _) ?_ (by rfl) (by rfl) (by decide +kernel) ⟨_, _, rfl⟩ ?_ (by omega) (fun _ _ => rfl)) ?_ (by rw [dictV_keys]; exact hnd) (by simp [dictV]; omega)).toD) (by rfl) (by rfl) (fun _ => rfl)).to rfl
  · simp [keysPV, dictV, Function.comp_def, nv]
  · rintro i hi vs ⟨x, y, rfl⟩
    refine ⟨[x, some (.val (nv i)), some (.val (.list (due.map lV))), some (.val (.dict (dictV ps T)))], ⟨_, _, rfl⟩, (tra_name (by rfl) (by rfl)).to, ⟨rfl, rfl⟩, fun _ => ?_⟩
    refine tr_tuple (ps := [nv i, .list ((lessT T due i).map nv)]) (tra_cons (fun _ => rfl) (tr_name (i := 1) (by rfl) (by rfl)) (tra_cons (fun _ => rfl) ?_ tra_nil)) (by simp)
    refine tr_compf (l := T i) (f := nv) (val := nv) (keep := fun y => !decide (srt2 i y ∈ due)) (Inv := fun vs => ∃ x y, vs = [x, y, none, some (.val (.list (due.map lV))), some (.val (nv i))]) (tr_item_dict (x := nm i) (tr_name (i := 3) (by rfl) (by rfl)) (tr_name (i := 1) (p := nv i) (by rfl) (by rfl)) (dictV_lookup hi) (fun _ _ _ => rfl)) (.list _) rfl (by rfl) (by rfl) (by decide +kernel) ⟨_, _, rfl⟩ ?_ (by have := hlen i; omega) (fun _ _ => rfl)
    rintro j hj vs ⟨x', y', rfl⟩
    refine ⟨[x', some (.val (nv j)), none, some (.val (.list (due.map lV))), some (.val (nv i))], ⟨_, _, rfl⟩, (tra_name (by rfl) (by rfl)).to, ?_, fun _ => tr_name (by rfl) (by rfl)⟩
    exact (trt_cmpR (tr_srt2 (x := i) (y := j) (by rfl) ns (fun _ => rfl) (fun _ => rfl) (fun _ => rfl) (tr_name (i := 4) (by rfl) (by rfl)) (tr_name (i := 1) (by rfl) (by rfl)) (fun e => hirr i (by simpa [← e] using hj))) (tr_name (i := 3) (p := .list (due.map lV)) (by rfl) (by rfl)).toV (cmpR_notin (x := srt2 i j) (l := due) eqLV (by decide)) rfl).to (by congr)
  · rw [filter_id (fun _ _ => rfl)]; simp [dictV, Function.comp_def, nv]
end
end RM
end
noncomputable section
namespace RM
section
variable {c : KB} {k : Nat} {ps : List Pl} {T : Pl → List Pl} {a : Addr} {pl : List PRec}
theorem taken_spec (ne : c.mg "enumerate" = none) (nl : c.mg "len" = none) (ns : c.mg "sorted" = none) (nd : c.mg "dict" = none) (nli : c.mg "list" = none) {aW : Addr} (hW : FnOk c aW S_within) (gW : c.mg "_law_is_within" = some (.ref aW)) (hf : FnOk c a S_taken) (hk : k + 2 ≤ 150)
    (hnd : ps.Nodup) (hps : ps.length ≤ 100) {cyc X : List (Pl × Pl)} {S : List (List (Pl × Pl))} (C : DueOk ps T cyc) (hX : X.map (fun q => srt2 q.1 q.2) = dueUp T cyc cyc.length) (hXne : ∀ q ∈ X, q.1 ≠ q.2) (hXl : X.length < 64) (hSl : S.length ≤ 10000) (K : Taken ps T cyc (dueUp T cyc cyc.length) S) :
    FnSpec c k a [.dict (dictV ps T), .list (cyc.map prN), .list (X.map prN), .list (S.map dP)] pl (.bool true) pl := by
  have hndn : (ps.map nm).Nodup := List.pairwise_map.mpr (hnd.imp fun h e => h (nm_inj _ _ e))
  have hdl : (dueUp T cyc cyc.length).length < 64 := by rw [← hX, List.length_map]; exact hXl
  obtain ⟨x5, x6, x7, x8, x9, h1⟩ := due_loop (c := c) (k := k + 1) (pl := pl) ne ns C (pa := .list (X.map prN)) (st := .list (S.map dP)) (x10 := none) (x11 := none) (x12 := none) (x13 := none)
  generalize hdue : dueUp T cyc cyc.length = due at *
  let V (x11 x12 x13 : Option Bind) : List (Option Bind) := kVs (.dict (dictV ps T)) (.list (cyc.map prN)) (.list (X.map prN)) (.list (S.map dP)) (some (.val (.list (due.map lV)))) x5 x6 x7 x8 x9 (some (.val (.dict (dictV ps (lessT T due))))) x11 x12 x13
  let so := S.filter fun P => within P (mf P) T
  have hso : ∀ P ∈ so, P ∈ S ∧ within P (mf P) T = true := fun P hP => List.mem_filter.mp hP
  have hsol : so.length ≤ 10000 := Nat.le_trans (List.length_filter_le ..) hSl
  have hloop : ∃ σ', TrS c (k + 1) (fdScope S_taken) ⟨V none (some (.val (.list (so.map dP)))) none, pl⟩ (nthS 5 (fdBody S_taken)) .next σ' ∧ ∃ x11 x13, σ' = ⟨V x11 (some (.val (.list (so.map dP)))) x13, pl⟩ := by
    refine tr_for_inv (f := dP) (fun _ σ' => ∃ x11 x13, σ' = ⟨V x11 (some (.val (.list (so.map dP)))) x13, pl⟩) (l := so) (tr_name (i := 12) (by rfl) (by rfl)) rfl ⟨none, none, rfl⟩ ?_ (fun _ _ => rfl)
    rintro P D rest σ hS ⟨x11, x13, rfl⟩
    have hP : P ∈ so := by rw [hS]; simp
    obtain ⟨hPS, hPw⟩ := hso P hP
    obtain ⟨hM, hPl⟩ := K.mate P hPS
    obtain ⟨hh, hw⟩ := K.all P hPS hPw
    refine ⟨⟨V (some (.val (dP P))) (some (.val (.list (so.map dP)))) x13, pl⟩, .next, ⟨V (some (.val (dP P))) (some (.val (.list (so.map dP)))) (some (.val (.int (haveN cyc (mf P))))), pl⟩, (tra_name (by rfl) (by rfl)).to, ?_, .inl rfl, _, _, rfl⟩
    refine trs_cons ((tr_assign (tr_len (xs := (cyc.filter fun q => decide (mf P q.1 = q.2)).map fun q => nv q.1) (by rfl) nl (fun _ => rfl) (tr_compf (l := cyc) (f := prN) (val := fun q => nv q.1) (keep := fun q => decide (mf P q.1 = q.2)) (Inv := fun vs => ∃ x y z, vs = [x, y, z, some (.val (dP P))]) (tr_name (i := 1) (by rfl) (by rfl)) (.list _) rfl (by rfl) (by rfl) (by decide +kernel) ⟨_, _, _, rfl⟩ ?_ (by have := C.len; omega) (fun _ _ => rfl)).toV) (by rfl) (by rfl) (fun _ => rfl)).to (σ'' := ⟨V (some (.val (dP P))) (some (.val (.list (so.map dP)))) (some (.val (.int (haveN cyc (mf P))))), pl⟩) (by simp [haveN, V, kVs, St.set])) ?_
    · rintro q hq vs ⟨x, y, z, rfl⟩
      obtain ⟨l, r⟩ := q
      have hl := (C.mem _ hq).1
      refine ⟨[x, some (.val (nv l)), some (.val (nv r)), some (.val (dP P))], ⟨_, _, _, rfl⟩, (tra_tuple (.cons (tra_name (by rfl) (by rfl)) (.cons (tra_name (by rfl) (by rfl)) .nil)) (fun _ => rfl)).to rfl, ?_, fun _ => tr_name (i := 1) (by rfl) (by rfl)⟩
      refine (trt_cmp (tr_item_dict (x := nm l) (p := .str (nm (mf P l))) (tr_name (i := 3) (p := dP P) (by rfl) (by rfl)) (tr_name (i := 1) (p := nv l) (by rfl) (by rfl)) (hM.lk l hl) (fun _ _ _ => rfl)) (tr_name (i := 2) (p := .str (nm r)) (by rfl) (by rfl)).toV cmp_eq_str rfl).to ?_
      by_cases h : mf P l = r
      · simp [h]
      · have : nm (mf P l) ≠ nm r := fun e => h (nm_inj _ _ e)
        simp [h, this]
    · refine trs_cons (tr_if (b := false || false) (trt_or ?_ (fun _ => ?_)) (fun h => by cases h) (fun _ => trs_nil)) trs_nil
      · refine (trt_cmp (tr_name (i := 13) (p := .int (haveN cyc (mf P))) (by rfl) (by rfl)) (tr_tuple (ps := [.int 0, .int cyc.length]) (tra_cons (fun _ => rfl) tr_int (tra_cons (fun _ => rfl) ((tr_len (xs := cyc.map prN) (by rfl) nl (fun _ => rfl) (tr_name (i := 1) (by rfl) (by rfl)).toV).to (by simp)) tra_nil)) (by simp)).toV (cmp_notin_tup (emb := PV.int) (x := (haveN cyc (mf P) : Int)) (l := [0, (cyc.length : Int)]) eqEmb_int (by decide) (by intro xs q; cases q)) rfl).to ?_
        have : (haveN cyc (mf P) : Int) ∈ [0, (cyc.length : Int)] := by
          rcases hh with h | h <;> simp [h]
        simp [this]
      · refine (trt_cmp (p := .bool (within P (mf P) (lessT T due))) (tr_call (by rfl) gW hW.isFn (fun _ => rfl) (tra_cons (fun _ => rfl) (tr_name (i := 11) (p := dP P) (by rfl) (by rfl)) (tra_cons (fun _ => rfl) (tr_name (i := 10) (by rfl) (by rfl)) tra_nil)) (within_spec hW (by omega) hM hPl)) (tr_cmp (tr_name (i := 13) (p := .int (haveN cyc (mf P))) (by rfl) (by rfl)) (tr_int (i := 0)).toV cmp_eq_int rfl).toV cmp_ne_bool rfl).to ?_
        rw [hw]
        by_cases h : haveN cyc (mf P) = 0
        · simp [h]
        · have : ((haveN cyc (mf P) : Int) == 0) = false := by simp; omega
          simp [h, this]
  obtain ⟨σ', h5, x11, x13, rfl⟩ := hloop
  refine fn_intro (σ' := ⟨V x11 (some (.val (.list (so.map dP)))) x13, pl⟩) hf rfl (by decide +kernel) (by decide +kernel) (by omega) (fl := .ret _) ?_ (.inl rfl)
  have hvs : initVs (fdScope S_taken) (fdNames S_taken) [.dict (dictV ps T), .list (cyc.map prN), .list (X.map prN), .list (S.map dP)] = kVs (.dict (dictV ps T)) (.list (cyc.map prN)) (.list (X.map prN)) (.list (S.map dP)) none none none none none none none none none none := by rfl
  rw [hvs]
  refine trs_cons ((tr_assignN (tr_list (ps := []) tra_nil (by simp)) (by rfl) (by rfl) (fun _ => rfl)).to (σ'' := ⟨kVs (.dict (dictV ps T)) (.list (cyc.map prN)) (.list (X.map prN)) (.list (S.map dP)) (some (.lst [])) none none none none none none none none none, pl⟩) rfl) ?_
  refine trs_cons h1 ?_
  refine trs_cons (taken_if1 ns hX hXne hdl) ?_
  refine trs_settle (i := 4) (b := .lst (due.map lV)) (by rfl) ?_
  refine trs_cons (taken_less ns nd hndn hps (fun m => Nat.le_trans (C.lens m) (by decide)) C.irr) ?_
  refine trs_cons ((tr_assign_compf (l := S) (f := dP) (val := dP) (keep := fun P => within P (mf P) T) (Inv := fun vs => ∃ x y, vs = [x, y, none, some (.val (.dict (dictV ps T)))]) (by rfl) (by rfl) (tr_name (i := 3) (by rfl) (by rfl)) (.list _) rfl (by rfl) (by rfl) (by decide +kernel) ⟨_, _, rfl⟩ ?_ (by omega) (fun _ _ => rfl)).to (σ'' := ⟨V none (some (.val (.list (so.map dP)))) none, pl⟩) rfl) ?_
  · rintro P hP vs ⟨x, y, rfl⟩
    obtain ⟨hM, hPl⟩ := K.mate P hP
    refine ⟨[x, some (.val (dP P)), none, some (.val (.dict (dictV ps T)))], ⟨_, _, rfl⟩, (tra_name (by rfl) (by rfl)).to, ?_, fun _ => tr_name (by rfl) (by rfl)⟩
    exact trt_bool (tr_call (by rfl) gW hW.isFn (fun _ => rfl) (tra_cons (fun _ => rfl) (tr_name (i := 1) (p := dP P) (by rfl) (by rfl)) (tra_cons (fun _ => rfl) (tr_name (i := 3) (by rfl) (by rfl)) tra_nil)) (within_spec hW (by omega) hM hPl)) (fun _ _ => rfl)
  refine trs_cons h5 ?_
  have hsome : ∀ b, (!so.isEmpty) = b → b = true → (so.filter fun P => within P (mf P) (lessT T due)).isEmpty = false := by
    intro b hb hbt
    have hne : so ≠ [] := by intro q; rw [q] at hb; rw [hbt] at hb; cases hb
    obtain ⟨P0, hP0⟩ := List.exists_mem_of_ne_nil _ hne
    obtain ⟨P, hPS, hw1, hw2⟩ := K.left ⟨P0, (hso P0 hP0).1, (hso P0 hP0).2⟩
    have : P ∈ so.filter fun P => within P (mf P) (lessT T due) := List.mem_filter.mpr ⟨List.mem_filter.mpr ⟨hPS, hw1⟩, hw2⟩
    cases h : so.filter fun P => within P (mf P) (lessT T due) with
    | nil => rw [h] at this; cases this
    | cons _ _ => rfl
  have htest : TrSs c (k + 1) (fdScope S_taken) ⟨V x11 (some (.val (.list (so.map dP)))) x13, pl⟩ ((fdBody S_taken).drop 7) (.ret (.bool true)) ⟨V x11 (some (.val (.list (so.map dP)))) x13, pl⟩ →
      TrSs c (k + 1) (fdScope S_taken) ⟨V x11 (some (.val (.list (so.map dP)))) x13, pl⟩ ((fdBody S_taken).drop 6) (.ret (.bool true)) ⟨V x11 (some (.val (.list (so.map dP)))) x13, pl⟩ := by
    intro h
    refine trs_cons (tr_if (b := !so.isEmpty && (so.filter fun P => within P (mf P) (lessT T due)).isEmpty) (trt_and ?_ (fun hb => ?_)) (fun h => ?_) (fun _ => trs_nil)) h
    · exact (trt_cmp (tr_name (i := 12) (p := .list (so.map dP)) (by rfl) (by rfl)) (tr_list (ps := []) tra_nil (by simp)).toE.toV cmp_ne_nil rfl).to (by simp)
    · refine (trt_cmp (tr_compf (l := so) (f := dP) (val := dP) (keep := fun P => within P (mf P) (lessT T due)) (Inv := fun vs => ∃ x y, vs = [x, y, none, some (.val (.dict (dictV ps (lessT T due))))]) (tr_name (i := 12) (by rfl) (by rfl)) (.list _) rfl (by rfl) (by rfl) (by decide +kernel) ⟨_, _, rfl⟩ ?_ (by omega) (fun _ _ => rfl)) (tr_list (ps := []) tra_nil (by simp)).toE.toV cmp_eq_nil rfl).to (by simp)
      rintro P hP vs ⟨x, y, rfl⟩
      obtain ⟨hM, hPl⟩ := K.mate P (hso P hP).1
      refine ⟨[x, some (.val (dP P)), none, some (.val (.dict (dictV ps (lessT T due))))], ⟨_, _, rfl⟩, (tra_name (by rfl) (by rfl)).to, ?_, fun _ => tr_name (by rfl) (by rfl)⟩
      exact trt_bool (tr_call (by rfl) gW hW.isFn (fun _ => rfl) (tra_cons (fun _ => rfl) (tr_name (i := 1) (p := dP P) (by rfl) (by rfl)) (tra_cons (fun _ => rfl) (tr_name (i := 3) (by rfl) (by rfl)) tra_nil)) (within_spec hW (by omega) hM hPl)) (fun _ _ => rfl)
    · exfalso
      rw [Bool.and_eq_true] at h
      have := hsome _ rfl h.1
      rw [this] at h; cases h.2
  refine htest ?_
  have hvals : (dictV ps (lessT T due)).map (·.2) = (ps.map (lessT T due)).map lV := by simp [dictV, lV, Function.comp_def]
  have hin : ∀ b, decide (([] : List Pl) ∈ ps.map (lessT T due)) = b → TrT c (k + 1) (fdScope S_taken) ⟨V x11 (some (.val (.list (so.map dP)))) x13, pl⟩ (match nthS 7 (fdBody S_taken) with | .If t _ _ _ => t | _ => .Constant .none 0 ⟨0, 0, 0, 0⟩) b ⟨V x11 (some (.val (.list (so.map dP)))) x13, pl⟩ := by
    intro b hb
    refine (trt_cmpR (p := lV []) (q := .list ((ps.map (lessT T due)).map lV)) (tr_list (ps := []) tra_nil (by simp)).toE (TrE.toV ((tr_list_values (kvs := dictV ps (lessT T due)) (by rfl) nli (tr_name (i := 10) (by rfl) (by rfl)) (fun _ => rfl) rfl (fun _ => rfl)).toE.to (by rw [hvals]))) (cmpR_in (x := ([] : List Pl)) (l := ps.map (lessT T due)) eqLV (by decide)) rfl).to ?_
    rw [← hb]; congr
  by_cases hemp : ([] : List Pl) ∈ ps.map (lessT T due)
  · exact trs_stop (tr_if (b := true) (hin true (by simpa using hemp)) (fun _ => trs_stop (tr_return tr_bool) (by simp)) (fun q => by cases q)) (by simp)
  · refine trs_cons (tr_if (b := false) (hin false (by simpa using hemp)) (fun q => by cases q) (fun _ => trs_nil)) ?_
    have hback := K.back (fun i hi e => hemp (List.mem_map.mpr ⟨i, hi, e⟩))
    refine trs_stop (tr_return ((tr_cmp (tr_compf (l := ps) (f := nv) (val := nv) (keep := fun _ => false) (Inv := fun vs => ∃ x y, vs = [x, y, some (.val (.dict (dictV ps (lessT T due))))]) (tr_name (i := 10) (p := .dict (dictV ps (lessT T due))) (by rfl) (by rfl)) (.dict _) ?_ (by rfl) (by rfl) (by decide +kernel) ⟨_, _, rfl⟩ ?_ (by omega) (fun _ _ => rfl)) (tr_list (ps := []) tra_nil (by simp)).toE.toV cmp_eq_nil rfl).to ?_)) (by simp)
    · simp [keysPV, dictV, Function.comp_def, nv]
    · rintro i hi vs ⟨x, y, rfl⟩
      obtain ⟨z, hz, hzp, hzl⟩ := hback i hi
      refine ⟨[x, some (.val (nv i)), some (.val (.dict (dictV ps (lessT T due))))], ⟨_, _, rfl⟩, (tra_name (by rfl) (by rfl)).to, ?_, fun h => by cases h⟩
      refine (trt_cmp (tr_item_last (xs := (lessT T due z).map nv) (p := .str (nm i)) (tr_item_dict (x := nm z) (tr_name (i := 2) (by rfl) (by rfl)) (tr_item (j := 0) (xs := (lessT T due i).map nv) (p := nv z) (tr_item_dict (x := nm i) (tr_name (i := 2) (by rfl) (by rfl)) (tr_name (i := 1) (p := nv i) (by rfl) (by rfl)) (dictV_lookup hi) (fun _ _ _ => rfl)) tr_int (by rw [List.getElem?_map, ← List.head?_eq_getElem?, hz]; rfl) (fun _ _ _ => rfl)) (dictV_lookup hzp) (fun _ _ _ => rfl)) (tr_neg tr_int) (by rw [List.getLast?_map, hzl]; rfl) (fun _ _ _ => rfl)) (tr_name (i := 1) (p := .str (nm i)) (by rfl) (by rfl)).toV cmp_ne_str rfl).to (by simp)
    · simp
end
end RM
end
noncomputable section
namespace RM
structure PInit (c : KB) (st : Stmt) (aI aB : Addr) : Prop where
  fn : ∃ o fd, c.K.lookup aI = some o ∧ o.data = .func fd ∧ fd.body = .stmts (fdBody st) ∧ fd.scope = fdScope st ∧ c.B0.CodeRec fd.code fd.qualname ∧ fd.globals = mainGlobals ∧ fd.builtins = builtinsNs ∧
    (∀ v1 v2, bindArgs fd ⟨[v1, v2], []⟩ = pure [(("self" : Str), v1), (("name" : Str), v2)]) ∧
    ∃ ar cc cda ob vs file tf, (fd.params.posonlyargs ++ fd.params.args).head? = some ar ∧ ar.arg = ("self" : Str) ∧ fd.closure = [(("__class__" : Str), cc)] ∧ c.B0.IsCell cc (some (.ref c.C)) ∧ fd.code = .ref cda ∧ c.B0.get? cda = some ob ∧ ob.data = .fields vs ∧ vs[2]? = some (.str file tf) ∧ ((c.prog.main.file : Str) == file) = true
  cls : ∃ cd, clsIn c.K c.C = some cd
  mro : mroIn c.K c.C (.ref c.C) = some true
  nosuper : c.mg "super" = none
  top : (c.prog.main.scope.names.lookup ("super" : Str)).isSome = false
  opq : nsIn c.K cStatics "thirdparty.any" = some none
  sup : ks_superIn c.K c.C c.C "__init__" = some (some (.ref aB))
  fnB : fnIn c.K aB = true
  tyB : typeIn c.K (.ref aB) = some (.type "function")
section
variable {c : KB} {k : Nat}
theorem pinit_code {st : Stmt} {aI aB : Addr} (P : PInit c st aI aB) {e : Expr} {sp spp ap cp pos np : Pos} (hbody : fdBody st = [.Expr (.Call (.Attribute (.Call (.Name "super" sp) [] [] spp) "__init__" ap) [.Name "name" np] [] cp) pos])
    (hsc : (fdScope st).kind = .function ∧ (fdScope st).isCoroutine = false ∧ (fdScope st).isGenerator = false ∧ (∀ x ∈ (fdScope st).names, x.2 ≠ .cell) ∧ (fdScope st).names.lookup ("super" : Str) = some .globalImplicit ∧ (fdScope st).names.lookup ("__class__" : Str) = some .free ∧ (fdScope st).names.lookup ("self" : Str) = some .local ∧ (fdScope st).names.lookup ("name" : Str) = some .local)
    {plx : Env → Sem Bool} (hev : ∀ env, eval (.Call (.Attribute (.Call (.Name "super" sp) [] [] spp) "__init__" ap) [.Name "name" np] [] cp) env = (do
      let ov ← attributeBase (.Call (.Name "super" sp) [] [] spp) "__init__" env (eval (.Call (.Name "super" sp) [] [] spp) env)
      standAt ap.atName
      let (f, first) ← holding [ov] (getMethod ov "__init__" (plx env))
      callWith cp f first (backTo cp (starEach [.Name "name" np] env)) []))
    (hk : k + 1 ≤ 150) {i : Nat} {p : PV} {pl pl' : List PRec} (hB : FnCode c (k + 1) aB [.obj i, p] pl .none pl') : FnCode c k aI [.obj i, p] pl .none pl' := by
  intro A g s vs R L X hv hR
  obtain ⟨o, fd, ho, hd, hbd, hscp, hcode, hgl, hbi, hbind, ar, cc, cda, oc, vsc, file, tf, har, hars, hclo, hcell, hcd, hoc, hocd, hvs2, hfile⟩ := P.fn
  obtain ⟨h1, h2, h3, h4, h5, h6, h7, h8⟩ := hsc
  cases hv with
  | cons r1 hv =>
    cases hv with
    | cons r2 hv =>
      cases hv
      rename_i v1 v2
      have KI := X.KIn
      refine ks_codeAny_call_defAt (fd := fd) (body := fdBody st) (binds := [(("self" : Str), v1), (("name" : Str), v2)]) ?_ (KI _ _ ho) hd (X.ok.nolimit.keeps X.heap0) (hcode.keeps X.heap0) hbd (BindsTo.of_eq (hbind v1 v2)) ?_ ?_ (fun h₁ hns hk₁ => ?_) ?_ ?_ ?_
      · have := L.dep; have := L.k; show A.depth < 1000; omega
      · rw [hscp]; exact h4
      · rw [hscp]; intro x hx
        rcases List.mem_cons.mp hx with rfl | hx
        · exact h7
        · rw [List.mem_singleton] at hx; subst hx; exact h8
      · rw [hbody]
        have X1 : GS c pl g { s with heap := h₁, toks := s.toks + [(("self" : Str), v1), (("name" : Str), v2)].length } := X.evolve (.refl g) rfl rfl hk₁ (fun a o e => hk₁ _ _ (X.fz _ _ e)) (fun a o e => X.dis a o e) (fun a h => (X.dxf a h).1) rfl rfl
        generalize hs1 : ({ s with heap := h₁, toks := s.toks + [(("self" : Str), v1), (("name" : Str), v2)].length } : Shared) = s1 at X1
        have hns' : s1.heap.Ns s.heap.objs.size (fun x => [(("self" : Str), v1), ("name", v2)].reverse.lookup x) := by rw [← hs1]; exact hns
        have kind : (callEnv fd s.heap.objs.size aI).scope.kind = .function := by show fd.scope.kind = _; rw [hscp]; exact h1
        have kof : ∀ x kd, (fdScope st).names.lookup x = some kd → (callEnv fd s.heap.objs.size aI).kindOf x = some kd := fun x kd h => by show fd.scope.names.lookup x = _; rw [hscp]; exact h
        obtain ⟨cd, hcls⟩ := P.cls
        obtain ⟨oD, hD1, hD2⟩ : ∃ oD, s1.heap.get? c.C = some oD ∧ oD.data = .cls cd := by
          unfold clsIn at hcls
          split at hcls
          · rename_i ho'
            cases hcls
            exact ⟨_, X1.KIn _ _ ho', rfl⟩
          · cases hcls
        obtain ⟨x, dx, es, n, rfl, hφ, hdx, hfz, I⟩ := X1.instOf r1
        refine ks_wpAt_execs_cons (ks_wpAt_Expr_any (ks_wpAt_MethodCall (pl := plx (callEnv fd s.heap.objs.size aI)) (ks_wpAt_super_base (of := o) (oc := oc) (fd := fd) (ar := ar) (kof _ _ h5) (kof _ _ h6) (by decide +kernel) rfl (X1.KIn _ _ ho) hd har (by show fd.code = _; exact hcd) (X1.heap0 _ _ hoc) hocd hvs2 hfile P.top ?_) (hev _)) ?_ rfl)
        · refine ks_loadName_global kind (kof _ _ h5) (Calls.loadGlobal_builtin (env := callEnv fd s.heap.objs.size aI) (mg := c.mg) (mb := c.mb) ?_ P.nosuper ?_ ((X.ok.builtins _ (by decide +kernel)).trans (by decide +kernel)) ⟨rfl, ?_⟩)
          · show s1.heap.Ns fd.globals c.mg; rw [hgl]; exact X1.ok.g.keeps X1.heap0
          · show s1.heap.Ns fd.builtins c.mb; rw [hbi]; exact X1.ok.b.keeps X1.heap0
          refine wpAny_loadName_free kind (kof _ _ h6) (c := cc) ?_ (hcell.keeps X1.heap0) ?_
          · show fd.closure.lookup _ = _; rw [hclo]; rfl
          rw [hars]
          refine wpAny_loadName_local kind (kof _ _ h7) hns' (v := .ref x) (by rfl) ?_
          obtain ⟨hp1, g1, d1, t1, os1⟩ := s1
          refine ks_wpAny_isType_cls hD1 hD2 ⟨rfl, ?_⟩
          refine ks_wpAny_call_super hD1 hD2 I.at_ I.cls (by intro cdd q; cases q) (looks_mroIn X1.KIn P.mro) (fun h' e' k' => ?_)
          have KI2 : c.K.In h' := X1.KIn.keeps k'
          have hx' : h'.get? x = some (instObj c.C dx) := k' _ _ I.at_
          obtain ⟨of, hof, hofc⟩ : ∃ of, h'.get? aB = some of ∧ of.cls = .type "function" := by
            have ht' : (c.K.lookup aB).map (·.cls) = some (.type "function") := P.tyB
            cases z : c.K.lookup aB with
            | none => rw [z] at ht'; cases ht'
            | some of => rw [z] at ht'; exact ⟨of, KI2 _ _ z, Option.some.inj ht'⟩
          have hsup := P.sup
          unfold ks_superIn at hsup
          rw [hcls] at hsup
          refine ks_wpAny_getMethod_super e' (looks_opaque KI2 P.opq) (l₀ := cd.mro) ?_ rfl KI2 hsup hof hofc (ks_ne X1.KIn I hcls) (by decide +kernel) ?_
          · exact fun A Q E s k q => wpAny_bind ((looks_clsIn KI2 hcls) A _ E s k (wpAny_pure q))
          · have up2 : ∀ b o, h'.get? b = some o → (h'.push { cls := .type "method", data := .fields #[.ref aB, .ref x] }).get? b = some o := fun b o q => Heap.get?_push_of_some _ q
            have hq : (h'.push { cls := .type "method", data := .fields #[.ref aB, .ref x] }).get? h'.objs.size = some (methodObj (.ref aB) (.ref x)) := Heap.get?_push_size _ rfl
            have X2 : GS c pl g ⟨h'.push { cls := .type "method", data := .fields #[.ref aB, .ref x] }, g1, d1, t1 + 1, os1⟩ :=
              X1.evolve (.refl g) rfl rfl (fun b o q => up2 _ _ (k' _ _ q)) (fun a o q => up2 _ _ (k' _ _ (X1.fz _ _ q))) (fun a o q => X1.dis a o q) (fun a h => (X1.dxf a h).1) rfl rfl
            refine callWith_of (P := MethP c.K h'.objs.size aB (.ref x)) rfl (keeps_M P.fnB) (Calls.evalArgs_plain (Calls.spliced_cons ?_))
            refine wpAny_Name (wpAny_loadName_local kind (kof _ _ h8) (hns'.keeps fun b o q => up2 _ _ (k' _ _ q)) (v := v2) (by rfl) ?_) (by decide +kernel)
            refine Calls.spliced_nil ⟨⟨hq, X2.KIn⟩, wpAny_call (ks_codeAny_call_bound hq ?_)⟩
            refine hB _ g _ [.ref x, v2] _ (L.deeper hk) X2 (.cons r1 (.cons r2 .nil)) fun v g' s' l X' r => ?_
            exact PySem.wpAt_of_wpAny (wpAny_execs_nil (hR _ g' s' l X' .none))
        · simp [interactive, kind]
      · rw [hscp]; exact h2
      · rw [hscp]; exact h3
      · rw [hscp]; exact h1
end
end RM
end
noncomputable section
set_option maxRecDepth 100000
namespace RM
theorem wt_call (C : Addr) (rest : List Value) : (Code.builtin "type.__call__" ⟨.ref C :: rest, []⟩).weight = 1 := by kernel_rfl
theorem cu_call (C : Addr) (rest : List Value) : (Code.builtin "type.__call__" ⟨.ref C :: rest, []⟩).cUnits ≤ 4 := by
  show (1 : Nat) ≤ 4; decide
theorem en_call (C : Addr) (rest : List Value) : (Code.builtin "type.__call__" ⟨.ref C :: rest, []⟩).envs = [] := by kernel_rfl
theorem Lim.call {k : Nat} {A : Around} (L : Lim k A) (hk : k + 1 ≤ 150) (C : Addr) (rest : List Value) : Lim (k + 1) (A.under (.builtin "type.__call__" ⟨.ref C :: rest, []⟩)) := by
  obtain ⟨l, hl⟩ := L.fr
  refine ⟨L.hd, ?_, ?_, hk, ⟨l, ?_⟩⟩
  · have := L.dep; show A.depth + (Code.builtin "type.__call__" ⟨.ref C :: rest, []⟩).weight ≤ _; rw [wt_call]; omega
  · have := L.un; have := cu_call C rest; show A.units + (Code.builtin "type.__call__" ⟨.ref C :: rest, []⟩).cUnits ≤ _; omega
  · show pushEnvs (Code.builtin "type.__call__" ⟨.ref C :: rest, []⟩).envs A.frames = _; rw [en_call]; exact hl
structure ClsNew (c : KB) (aI : Addr) : Prop where
  makes : makesIn c.K c.C = true
  init : findIn c.K (.ref c.C) "__init__" = some (some (.ref aI))
  ty : typeIn c.K (.ref aI) = some (.type "function")
  keep : keepIn c.K (.ref c.C) = true
section
variable {c : KB} {k : Nat} {sc : Scope} {σ σ' σ₁ σ₂ σ₃ : St} {pl pl' : List PRec} {g g' : G} {s s' : Shared} {env : Env}
theorem GS.newInst (X : GS c pl g s) : ∃ g2, g.le g2 ∧ GS c (pl ++ [[]]) g2 { s with heap := (s.heap.push emptyDict).push (instObj c.C s.heap.objs.size) } ∧ Rep c.w g2 (.ref (s.heap.objs.size + 1)) (.obj pl.length) := by
  have hd0 : s.heap.get? s.heap.objs.size = none := get_none_of_ge (Nat.le_refl _)
  have hx0 : s.heap.get? (s.heap.objs.size + 1) = none := get_none_of_ge (Nat.le_succ _)
  have md := X.fresh hd0
  have mx := X.fresh hx0
  have hne : s.heap.objs.size ≠ s.heap.objs.size + 1 := Nat.ne_of_lt (Nat.lt_succ_self _)
  have sz : (s.heap.push emptyDict).objs.size = s.heap.objs.size + 1 := Heap.size_push ..
  generalize hdd : s.heap.objs.size = d at *
  generalize hxx : d + 1 = x at *
  have hx : ((s.heap.push emptyDict).push (instObj c.C d)).get? x = some (instObj c.C d) := by rw [← sz]; exact Heap.get?_push_size _ rfl
  have hd : ((s.heap.push emptyDict).push (instObj c.C d)).get? d = some (dictOf [] 0) := Heap.get?_push_of_some _ (hdd ▸ Heap.get?_push_size _ rfl)
  have up : ∀ b o, s.heap.get? b = some o → ((s.heap.push emptyDict).push (instObj c.C d)).get? b = some o := fun b o e => Heap.get?_push_of_some _ (Heap.get?_push_of_some _ e)
  let g2 : G := { φ := g.φ ++ [x], dx := g.dx ++ [d], fz := fun b => if b = x then some (instObj c.C d) else g.fz b, fx := g.fx }
  have fz2 : ∀ b o, g.fz b = some o → g2.fz b = some o := fun b o e => by
    have : b ≠ x := fun q => by rw [q, mx.1] at e; cases e
    show (if b = x then _ else g.fz b) = _
    rw [if_neg this]; exact e
  have cs : ∀ {b o}, g2.fz b = some o → (b = x ∧ o = instObj c.C d) ∨ g.fz b = some o := fun {b o} e => by
    have e' : (if b = x then some (instObj c.C d) else g.fz b) = some o := e
    split at e'
    · rename_i q; cases e'; exact .inl ⟨q, rfl⟩
    · exact .inr e'
  have le2 : g.le g2 := ⟨fun i a e => by
      show (g.φ ++ [x])[i]? = some a
      rw [List.getElem?_append_left (List.getElem?_eq_some_iff.mp e).1]; exact e, fun i a e => by
      show (g.dx ++ [d])[i]? = some a
      rw [List.getElem?_append_left (List.getElem?_eq_some_iff.mp e).1]; exact e, fz2, rfl⟩
  have hφ : g2.φ[pl.length]? = some x := by show (g.φ ++ [x])[pl.length]? = _; rw [← X.lenφ]; simp
  have hdx : g2.dx[pl.length]? = some d := by show (g.dx ++ [d])[pl.length]? = _; rw [← X.lendx]; simp
  refine ⟨g2, le2, ⟨X.ok, fun b o e => ?_, fun b o e => up _ _ (X.fx b o e), fun b o e => ?_, fun b o e => fz2 _ _ (X.base b o e), ?_, ?_, fun i r e => ?_, ?_, fun b hb => ?_, X.gens, X.os⟩, .obj hφ⟩
  · rcases cs e with ⟨rfl, rfl⟩ | h
    · exact hx
    · exact up _ _ (X.fz _ _ h)
  · rcases cs e with ⟨rfl, rfl⟩ | h
    · exact mx.2.1
    · exact X.dis _ _ h
  · show (g.φ ++ [x]).length = _; simp [X.lenφ]
  · show (g.dx ++ [d]).length = _; simp [X.lendx]
  · by_cases hi : i < pl.length
    · rw [List.getElem?_append_left hi] at e
      obtain ⟨a, d', es, n, e1, e2, e3, e4, e5, e6⟩ := X.pls i r e
      exact ⟨a, d', es, n, le2.φ _ _ e1, le2.dx _ _ e2, fz2 _ _ e3, up _ _ e4, e5.le le2, e6⟩
    · have hil : i < (pl ++ [[]]).length := (List.getElem?_eq_some_iff.mp e).1
      have : i = pl.length := by simp at hil; omega
      subst this
      simp at e
      subst e
      exact ⟨x, d, [], 0, hφ, hdx, by show (if x = x then _ else _) = _; rw [if_pos rfl], hd, .nil, by simp, by simp⟩
  · show (g.dx ++ [d]).Nodup
    rw [List.nodup_append]
    refine ⟨X.dxn, by simp, fun a ha b hb e => ?_⟩
    rw [List.mem_singleton] at hb
    subst hb; subst e
    exact md.2.2 ha
  · have hb0 : b ∈ g.dx ++ [d] := hb
    have hb' : b ∈ g.dx ∨ b = d := by rw [List.mem_append, List.mem_singleton] at hb0; exact hb0
    rcases hb' with hb' | rfl
    · refine ⟨?_, (X.dxf b hb').2⟩
      show (if b = x then _ else g.fz b) = none
      rw [if_neg (fun q : b = x => mx.2.2 (q ▸ hb'))]; exact (X.dxf b hb').1
    · refine ⟨?_, md.2.1⟩
      show (if b = x then _ else g.fz b) = none
      rw [if_neg hne]; exact md.1
theorem cls_spec {aI : Addr} (N : ClsNew c aI) (hk : k + 1 ≤ 150) {p : PV} (hI : FnCode c (k + 1) aI [.obj pl.length, p] (pl ++ [[]]) .none pl') : FnSpec c k c.C [p] pl (.obj pl.length) pl' := by
  intro A g s vs Q E L X R hQ
  have KI := X.KIn
  obtain ⟨g2, l2, X2, rx⟩ := X.newInst
  obtain ⟨hh, gg, dd, tt, oo⟩ := s
  refine wpAny_call (make_core (makes_of KI N.makes) (looks_findIn KI N.init) (fun self => bind_fn KI self N.ty) (.inl rfl) ?_)
  refine hI _ g2 _ (.ref (hh.objs.size + 1) :: vs) _ (L.call hk c.C vs) X2 (.cons rx (R.le l2)) fun v g' s' l' X' r => ?_
  cases r
  exact ⟨rfl, hQ _ g' s' (l2.trans l') X' (rx.le l')⟩
theorem tr_new {f : Str} {p' pos : Pos} {args : List Expr} {ps : List PV} {res : PV} {pl' : List PRec} {i : Nat} {aI : Addr} (N : ClsNew c aI) (hi : vloc sc f = some (i, .globalImplicit)) (hf : c.mg f = some (.ref c.C))
    (hp : PlainArgs args) (ha : TrArgs c k sc σ args ps σ₁) (hs : FnSpec c k c.C ps σ₁.pl res pl') : TrE c k sc σ (.Call (.Name f p') args [] pos) res { σ₁ with pl := pl' } := by
  intro A env g s Q E L V F hQ
  refine wpAny_Call_NameR (load_global V F.gs hi hf ?_)
  have hplain : ((backTo pos (starEach args env)).any (·.1) || ([] : List (Option Str × Sem Value)).any (·.1.isNone)) = false := by
    have : (backTo pos (starEach args env)).any (·.1) = false := by
      rw [hp env, List.any_eq_false]
      intro y hy
      simp only [backTo, List.map_map, List.mem_map, Function.comp] at hy
      obtain ⟨z, _, rfl⟩ := hy
      simp
    rw [this]; rfl
  refine callWith_of (P := fun h => c.K.In h) hplain (keeps_K N.keep) (evalArgs_tr hp ha L V F fun vs g' s' N' R => ⟨N'.sim.gs.KIn, ?_⟩)
  exact call_fn hs L N'.sim R fun v g'' s'' N'' r => hQ v g'' s'' (N'.trans N'') r
end
end RM
end
noncomputable section
namespace RM
def recInit (s : Str) : PRec := [("name", .str s), ("prefs", .list []), ("matching", .none), ("_pref_names", .list []), ("_original_prefs", .none)]
theorem app_get {α : Type} (l : List α) (r : α) : (l ++ [r])[l.length]? = some r := by simp
theorem app_set {α : Type} (l : List α) (r r' : α) : (l ++ [r]).set l.length r' = l ++ [r'] := by simp
section
variable {c : KB} {k : Nat} {pl : List PRec} {a : Addr}
theorem set_step {sc : Scope} {vs : List (Option Bind)} {x : Str} {e o : Expr} {p' pos : Pos} {p : PV} {r : PRec} (he : TrE c k sc ⟨vs, pl ++ [r]⟩ e p ⟨vs, pl ++ [r]⟩) (ho : TrE c k sc ⟨vs, pl ++ [r]⟩ o (.obj pl.length) ⟨vs, pl ++ [r]⟩) (hx : x ∈ attrNames) (hl : r.length < 50)
    (hs : ∀ env : Env, swapsWith e (some (.Attribute o x p')) pos.line env = pure false) : TrS c k sc ⟨vs, pl ++ [r]⟩ (.Assign [.Attribute o x p'] e pos) .next ⟨vs, pl ++ [putA x p r]⟩ :=
  (tr_assign_attr he ho (app_get _ _) hx hl hs).to (by dsimp only; rw [app_set])
theorem binit_code (hf : FnOk c a S_binit) (hk : k + 1 ≤ 150) (s : Str) : FnCode c k a [.obj pl.length, .str s] (pl ++ [[]]) .none (pl ++ [recInit s]) := by
  refine fn_introC (σ' := ⟨[some (.val (.obj pl.length)), some (.val (.str s))], pl ++ [recInit s]⟩) hf rfl (by decide +kernel) (by decide +kernel) hk (fl := .next) ?_ (.inr ⟨rfl, rfl⟩)
  have hvs : initVs (fdScope S_binit) (fdNames S_binit) [.obj pl.length, .str s] = [some (.val (.obj pl.length)), some (.val (.str s))] := by rfl
  rw [hvs]
  refine trs_cons (set_step (tr_name (i := 1) (p := .str s) (by rfl) (by rfl)) (tr_name (i := 0) (by rfl) (by rfl)) (by decide +kernel) (by decide) (fun _ => rfl)) ?_
  refine trs_cons (set_step (tr_list (ps := []) tra_nil (by simp)).toE (tr_name (i := 0) (by rfl) (by rfl)) (by decide +kernel) (by show 1 < 50; decide) (fun _ => rfl)) ?_
  refine trs_cons (set_step tr_none (tr_name (i := 0) (by rfl) (by rfl)) (by decide +kernel) (by show 2 < 50; decide) (fun _ => rfl)) ?_
  refine trs_cons (set_step (tr_list (ps := []) tra_nil (by simp)).toE (tr_name (i := 0) (by rfl) (by rfl)) (by decide +kernel) (by show 3 < 50; decide) (fun _ => rfl)) ?_
  refine trs_cons ((set_step tr_none (tr_name (i := 0) (by rfl) (by rfl)) (by decide +kernel) (by show 4 < 50; decide) (fun _ => rfl)).to (by rfl)) trs_nil
theorem player_spec {aI aB : Addr} (N : ClsNew c aI) (P : PInit c S_pinit aI aB) (hB : FnOk c aB S_binit) (hk : k + 3 ≤ 150) (s : Str) : FnSpec c k c.C [.str s] pl (.obj pl.length) (pl ++ [recInit s]) := by
  refine cls_spec N (by omega) (pinit_code P (e := .Constant .none 0 ⟨0, 0, 0, 0⟩) (by rfl) ⟨by rfl, by rfl, by rfl, by decide +kernel, by rfl, by rfl, by rfl, by rfl⟩ (plx := ?_) (fun _ => by rfl) (by omega) (binit_code hB (by omega) s))
end
end RM
end
noncomputable section
namespace RM
theorem cmp_is_none {c : KB} {k : Nat} : CmpPV c k .Is .none .none true := by
  intro pl g s X A v v' Q E L hv hv' hq
  cases hv.rep (by intro xs q; cases q)
  cases hv'.rep (by intro xs q; cases q)
  exact wpAny_is_self rfl hq
def recP (L : Pl → List Pl) (D : List Pl) (i : Pl) : PRec := if i ∈ D then recOf L L (fun _ => none) i else recInit (nm i)
theorem recP_name (L : Pl → List Pl) (D : List Pl) (i : Pl) : (recP L D i).lookup ("name" : Str) = some (nv i) := by unfold recP; split <;> rfl
theorem recP_pref (L : Pl → List Pl) (D : List Pl) (i : Pl) : (recP L D i).lookup ("set_prefs" : Str) = none := by unfold recP; split <;> rfl
def plP (ps : List Pl) (L : Pl → List Pl) (D : List Pl) : List PRec := ps.map (recP L D)
theorem plP_get {ps : List Pl} (ok : PsOk ps) {L : Pl → List Pl} {D : List Pl} {i : Pl} (hi : i ∈ ps) : (plP ps L D)[i.val]? = some (recP L D i) := by simp [plP, ok.at' i hi]
theorem plP_set {ps : List Pl} (ok : PsOk ps) {L : Pl → List Pl} {D : List Pl} {i : Pl} (hi : i ∈ ps) : (plP ps L D).set i.val (recOf L L (fun _ => none) i) = plP ps L (D ++ [i]) := by
  apply List.ext_getElem?
  intro m
  by_cases q : m = i.val
  · subst q
    rw [List.getElem?_set_self (List.getElem?_eq_some_iff.mp (plP_get ok (L := L) (D := D) hi)).1, plP_get ok hi]
    simp [recP]
  · rw [List.getElem?_set_ne (Ne.symm q)]
    simp only [plP, List.getElem?_map]
    cases e : ps[m]? with
    | none => rfl
    | some j =>
      have hj := List.mem_of_getElem? e
      have hji : j ≠ i := fun z => by
        subst z
        have h1 := ok.at' j hj
        have hlt := (List.getElem?_eq_some_iff.mp e).1
        exact q ((List.getElem?_inj hlt ok.nd).mp (e.trans h1.symm))
      simp [recP, hji]
section
variable {c : KB} {k : Nat} {ps : List Pl} {L : Pl → List Pl} {a : Addr}
theorem setprefs_spec (hf : FnOk c a S_setprefs) (hk : k + 1 ≤ 150) (ok : PsOk ps) {D : List Pl} {i : Pl} (hi : i ∈ ps) (hD : i ∉ D) (hL : ∀ j ∈ L i, j ∈ ps ∧ j ≠ i) (hl : (L i).length ≤ 1000) :
    FnSpec c k a [ob i, .list ((L i).map ob)] (plP ps L D) .none (plP ps L (D ++ [i])) := by
  refine fn_intro (σ' := ⟨[some (.val (ob i)), some (.val (.list ((L i).map ob)))], plP ps L (D ++ [i])⟩) hf rfl (by decide +kernel) (by decide +kernel) hk (fl := .next) ?_ (.inr ⟨rfl, rfl⟩)
  have hvs : initVs (fdScope S_setprefs) (fdNames S_setprefs) [ob i, .list ((L i).map ob)] = [some (.val (ob i)), some (.val (.list ((L i).map ob)))] := by rfl
  rw [hvs]
  have h0 : (plP ps L D)[i.val]? = some (recInit (nm i)) := by rw [plP_get ok hi]; simp [recP, hD]
  have hlt := (List.getElem?_eq_some_iff.mp h0).1
  have step : ∀ {r r' : PRec}, ((plP ps L D).set i.val r).set i.val r' = (plP ps L D).set i.val r' := by intro r r'; simp
  have self : ∀ {r : PRec}, ((plP ps L D).set i.val r)[i.val]? = some r := by intro r; rw [List.getElem?_set_self hlt]
  have other : ∀ {r : PRec} {j : Pl}, j ∈ ps → j ≠ i → ((plP ps L D).set i.val r)[j.val]? = some (recP L D j) := by
    intro r j hj hji
    rw [List.getElem?_set_ne (fun e => hji (Fin.ext e.symm)), plP_get ok hj]
  let r1 : PRec := [("name", nv i), ("prefs", .list ((L i).map ob)), ("matching", .none), ("_pref_names", .list []), ("_original_prefs", .none)]
  let r2 : PRec := [("name", nv i), ("prefs", .list ((L i).map ob)), ("matching", .none), ("_pref_names", .list ((L i).map nv)), ("_original_prefs", .none)]
  refine trs_cons ((tr_assign_attr (tr_name (i := 1) (p := .list ((L i).map ob)) (by rfl) (by rfl)) (tr_name (i := 0) (p := ob i) (by rfl) (by rfl)) h0 (by decide +kernel) (by show 5 < 50; decide) (fun _ => rfl)).to (σ'' := ⟨[some (.val (ob i)), some (.val (.list ((L i).map ob)))], (plP ps L D).set i.val r1⟩) (by rfl)) ?_
  refine trs_cons ((tr_assign_attr (tr_compf (l := L i) (f := ob) (val := nv) (keep := fun _ => true) (Inv := fun vs => ∃ x y, vs = [x, y]) (tr_name (i := 1) (by rfl) (by rfl)) (.list _) rfl (by rfl) (by rfl) (by decide +kernel) ⟨_, _, rfl⟩ ?_ (by omega) (fun _ _ => rfl)) (tr_name (i := 0) (p := ob i) (by rfl) (by rfl)) self (by decide +kernel) (by show 5 < 50; decide) (fun _ => rfl)).to (σ'' := ⟨[some (.val (ob i)), some (.val (.list ((L i).map ob)))], (plP ps L D).set i.val r2⟩) ?_) ?_
  · rintro j hj vs ⟨x, y, rfl⟩
    obtain ⟨h1, h2⟩ := hL j hj
    refine ⟨[x, some (.val (ob j))], ⟨_, _, rfl⟩, (tra_name (by rfl) (by rfl)).to, ⟨rfl, rfl⟩, fun _ => ?_⟩
    exact tr_attr (i := j.val) (p := nv j) (tr_name (by rfl) (by rfl)) (other h1 h2) (by decide +kernel) (recP_name ..) (fun _ => rfl)
  · dsimp only
    rw [step, filter_id (fun _ _ => rfl)]; rfl
  · refine trs_cons (tr_if (b := true) (σ₁ := ⟨[some (.val (ob i)), some (.val (.list ((L i).map ob)))], (plP ps L D).set i.val r2⟩) (trt_cmp (tr_attr (i := i.val) (p := .none) (tr_name (i := 0) (by rfl) (by rfl)) self (by decide +kernel) (by rfl) (fun _ => rfl)) tr_none.toV cmp_is_none rfl) (fun _ => ?_) (fun q => by cases q)) trs_nil
    refine trs_cons ((tr_assign_attr (tr_slice (nl := none) (nh := none) (xs := (L i).map ob) (tr_name (i := 1) (by rfl) (by rfl)) part_none part_none (.inl rfl)).toE (tr_name (i := 0) (p := ob i) (by rfl) (by rfl)) self (by decide +kernel) (by show 5 < 50; decide) (fun _ => rfl)).to ?_) trs_nil
    dsimp only
    rw [step, ← plP_set ok hi]; rfl
end
end RM
end
noncomputable section
namespace RM
def madeV (ps : List Pl) : List (Str × PV) := ps.map fun i => (nm i, ob i)
theorem madeV_lookup {i : Pl} : ∀ {ps : List Pl}, i ∈ ps → (madeV ps).lookup (nm i) = some (ob i)
  | [], h => by cases h
  | j :: ps, h => by
    simp only [madeV, List.map_cons, List.lookup_cons]
    by_cases e : i = j
    · subst e; simp
    · have : (nm i == nm j) = false := by
        have : nm i ≠ nm j := fun q => e (nm_inj _ _ q)
        simpa using this
      simp only [this]
      exact madeV_lookup (by simpa [e] using h)
theorem pos_of {ps : List Pl} (ok : PsOk ps) {done rest : List Pl} {i : Pl} (h : ps = done ++ i :: rest) : done.length = i.val := by
  have hi : i ∈ ps := by rw [h]; simp
  have h1 := ok.at' i hi
  have h2 : ps[done.length]? = some i := by rw [h]; simp
  have hlt := (List.getElem?_eq_some_iff.mp h2).1
  exact (List.getElem?_inj hlt ok.nd).mp (h2.trans h1.symm)
section
variable {c : KB} {k : Nat} {ps : List Pl} {L : Pl → List Pl} {a : Addr}
theorem make_run {aI aB : Addr} (N : ClsNew c aI) (PI : PInit c S_pinit aI aB) (hB : FnOk c aB S_binit) (gC : c.mg "Player" = some (.ref c.C)) (hk : k + 3 ≤ 150) (ok : PsOk ps) {sc : Scope} {i1 i2 : Nat} {np tp fp np2 tq : Pos} {tn : Nat} {cp : Pos} (hi1 : vloc sc "name" = some (i1, .local)) (hi2 : vloc sc "Player" = some (i2, .globalImplicit)) :
    ∀ {rest done : List Pl} {vs : List (Option Bind)}, ps = done ++ rest → i1 < vs.length →
    ∃ vs', CompRun c k sc (.Name "name" np) [] (.Tuple [.Name "name" np2, .Call (.Name "Player" fp) [.Name "name" tp] [] cp] tn tq) (rest.map nv) ⟨vs, done.map fun i => recInit (nm i)⟩ (rest.map fun i => .tup [nv i, ob i]) ⟨vs', ps.map fun i => recInit (nm i)⟩
  | [], done, vs, h, _ => ⟨vs, rfl, by simp at h; rw [h]⟩
  | i :: rest, done, vs, h, hlt => by
    have hpos := pos_of ok h
    have hv : (vs.set i1 (some (.val (nv i))))[i1]? = some (some (.val (nv i))) := by rw [List.getElem?_set_self hlt]
    obtain ⟨vs', hr⟩ := make_run N PI hB gC hk ok hi1 hi2 (rest := rest) (done := done ++ [i]) (vs := vs.set i1 (some (.val (nv i)))) (np := np) (tp := tp) (fp := fp) (np2 := np2) (tq := tq) (tn := tn) (cp := cp) (by rw [h]; simp) (by simpa using hlt)
    refine ⟨vs', ⟨vs.set i1 (some (.val (nv i))), done.map fun i => recInit (nm i)⟩, true, ⟨vs.set i1 (some (.val (nv i))), done.map fun i => recInit (nm i)⟩, tra_name hi1 rfl, ⟨rfl, rfl⟩, ?_⟩
    rw [if_pos rfl]
    refine ⟨.tup [nv i, ob i], ⟨vs.set i1 (some (.val (nv i))), (done ++ [i]).map fun i => recInit (nm i)⟩, rest.map fun i => .tup [nv i, ob i], ?_, hr, rfl⟩
    have hsp := player_spec (pl := done.map fun i => recInit (nm i)) N PI hB hk (nm i)
    have hob : PV.obj (done.map fun i => recInit (nm i)).length = ob i := by rw [List.length_map, hpos]; rfl
    rw [hob] at hsp
    refine tr_tuple (ps := [nv i, ob i]) (tra_cons (fun _ => rfl) (tr_name (p := nv i) hi1 hv) (tra_cons (fun _ => rfl) ((tr_new N hi2 gC (fun _ => rfl) (tra_cons (fun _ => rfl) (tr_name (p := .str (nm i)) hi1 hv) tra_nil) hsp).to rfl (by simp)) tra_nil)) (by simp)
end
end RM
end
noncomputable section
namespace RM
def plVs (ps : List Pl) (L : Pl → List Pl) (n m : Option Bind) : List (Option Bind) := [some (.val (.dict (dictV ps L))), some (.val (.list (ps.map nv))), n, m, none]
theorem plP_nil (ps : List Pl) (L : Pl → List Pl) : plP ps L [] = ps.map fun i => recInit (nm i) := by
  simp [plP, recP]
theorem plP_all (ps : List Pl) (L : Pl → List Pl) : plP ps L ps = plOf ps L L (fun _ => none) := by
  unfold plP plOf
  apply List.map_congr_left
  intro i hi
  simp [recP, hi]
theorem madeV_keys (ps : List Pl) : (madeV ps).map (·.1) = ps.map nm := by simp [madeV, Function.comp_def]
section
variable {c : KB} {k : Nat} {ps : List Pl} {L : Pl → List Pl} {a : Addr}
theorem make_comp {aI aB : Addr} {sc : Scope} {vs vsC : List (Option Bind)} {kvs : List (Str × PV)} (N : ClsNew c aI) (PI : PInit c S_pinit aI aB) (hB : FnOk c aB S_binit) (gC : c.mg "Player" = some (.ref c.C)) (hk : k + 3 ≤ 150) (ok : PsOk ps) {scope : Scope} {i1 i2 : Nat} {np tp fp np2 tq : Pos} {tn : Nat} {cp pos : Pos} {iter : Expr}
    (he : TrE c k sc ⟨vs, []⟩ iter (.dict kvs) ⟨vs, []⟩) (hkv : kvs.map (·.1) = ps.map nm) (h0 : capVs sc vs scope = some vsC) (hcap : capVs sc vs scope = some vsC) (hsc : ScOk scope = true) (hi1 : vloc scope "name" = some (i1, .local)) (hi2 : vloc scope "Player" = some (i2, .globalImplicit)) (hlt : i1 < vsC.length) (hlen : ps.length ≤ 100) (hfold : ∀ env x, foldedSetIterable iter env x = pure x) :
    TrE c k sc ⟨vs, []⟩ (.ListComp (.Tuple [.Name "name" np2, .Call (.Name "Player" fp) [.Name "name" tp] [] cp] tn tq) [⟨.Name "name" np, iter, [], 0⟩] scope pos) (.list (ps.map fun i => .tup [nv i, ob i])) ⟨vs, plP ps L []⟩ := by
  obtain ⟨vs', hr⟩ := make_run (k := k) N PI hB gC hk ok (rest := ps) (done := []) (vs := vsC) (np := np) (tp := tp) (fp := fp) (np2 := np2) (tq := tq) (tn := tn) (cp := cp) hi1 hi2 rfl hlt
  rw [plP_nil]
  have e : keysPV kvs = ps.map nv := by
    have e : keysPV kvs = (kvs.map (·.1)).map PV.str := by simp [keysPV, List.map_map, Function.comp_def]
    rw [e, hkv, List.map_map]; rfl
  exact tr_comp (pos := pos) he (.dict kvs) h0 hcap hsc (by rw [e]; exact hr) (by rw [e]; simp; omega) hfold
theorem players_spec {aI aB aS : Addr} (nd : c.mg "dict" = none) (N : ClsNew c aI) (PI : PInit c S_pinit aI aB) (hB : FnOk c aB S_binit) (gC : c.mg "Player" = some (.ref c.C)) (hS : FnOk c aS S_setprefs) (mS : MethAt c "set_prefs" aS)
    (hf : FnOk c a S_players) (hk : k + 4 ≤ 150) (ok : PsOk ps) (hps : ps.length ≤ 100) (hL : ∀ i ∈ ps, ∀ j ∈ L i, j ∈ ps ∧ j ≠ i) (hl : ∀ i, (L i).length ≤ 1000) :
    FnSpec c k a [.dict (dictV ps L), .list (ps.map nv)] [] (.list (ps.map ob)) (plOf ps L L (fun _ => none)) := by
  have hnd : (ps.map nm).Nodup := List.pairwise_map.mpr (ok.nd.imp fun h e => h (nm_inj _ _ e))
  have key : ∃ σ', TrS c (k + 1) (fdScope S_players) ⟨plVs ps L none (some (.val (.dict (madeV ps)))), plP ps L []⟩ (nthS 1 (fdBody S_players)) .next σ' ∧ ∃ x, σ' = ⟨plVs ps L x (some (.val (.dict (madeV ps)))), plP ps L ps⟩ := by
    refine tr_for_dict_inv (f := nm) (l := ps) (fun done σ => ∃ x, σ = ⟨plVs ps L x (some (.val (.dict (madeV ps)))), plP ps L done⟩) (tr_name (i := 0) (p := .dict (dictV ps L)) (by rfl) (by rfl)) dictV_keys ⟨none, rfl⟩ ?_ (fun _ _ => rfl)
    rintro i done rest σ hsp ⟨x, rfl⟩
    have hi : i ∈ ps := by rw [hsp]; simp
    have hD : i ∉ done := by
      intro q
      have := ok.nd
      rw [hsp, List.nodup_append] at this
      exact this.2.2 i q i (by simp) rfl
    refine ⟨⟨plVs ps L (some (.val (nv i))) (some (.val (.dict (madeV ps)))), plP ps L done⟩, .next, ⟨plVs ps L (some (.val (nv i))) (some (.val (.dict (madeV ps)))), plP ps L (done ++ [i])⟩, (tra_name (by rfl) (by rfl)).to, ?_, .inl rfl, ⟨_, rfl⟩⟩
    refine trs_cons ((tr_expr' (tr_meth (σ₂ := ⟨plVs ps L (some (.val (nv i))) (some (.val (.dict (madeV ps)))), plP ps L done⟩) (i := i.val) (r := recP L done i) (tr_item_dict (x := nm i) (tr_name (i := 3) (p := .dict (madeV ps)) (by rfl) (by rfl)) (tr_name (i := 2) (p := nv i) (by rfl) (by rfl)) (madeV_lookup hi) (fun _ _ _ => rfl)) (plP_get ok hi) mS (recP_pref L done i) (fun _ => rfl) (tra_cons (fun _ => rfl) ?_ tra_nil) (setprefs_spec hS (by omega) ok hi hD (hL i hi) (hl i)) (fun _ => rfl) (by simp) (by rfl)) (fun _ => rfl)).to (σ'' := ⟨plVs ps L (some (.val (nv i))) (some (.val (.dict (madeV ps)))), plP ps L (done ++ [i])⟩) rfl) trs_nil
    refine (tr_compf (l := L i) (f := nv) (val := ob) (keep := fun _ => true) (Inv := fun vs => ∃ x y, vs = [x, y, some (.val (.dict (madeV ps)))]) (tr_item_dict (x := nm i) (tr_name (i := 0) (p := .dict (dictV ps L)) (by rfl) (by rfl)) (tr_name (i := 2) (p := nv i) (by rfl) (by rfl)) (dictV_lookup hi) (fun _ _ _ => rfl)) (.list _) rfl (by rfl) (by rfl) (by decide +kernel) ⟨_, _, rfl⟩ ?_ (by have := hl i; omega) (fun _ _ => rfl)).to (by rw [filter_id (fun _ _ => rfl)])
    rintro j hj vs ⟨x, y, rfl⟩
    refine ⟨[x, some (.val (nv j)), some (.val (.dict (madeV ps)))], ⟨_, _, rfl⟩, (tra_name (by rfl) (by rfl)).to, ⟨rfl, rfl⟩, fun _ => ?_⟩
    exact tr_item_dict (x := nm j) (tr_name (i := 2) (p := .dict (madeV ps)) (by rfl) (by rfl)) (tr_name (i := 1) (p := nv j) (by rfl) (by rfl)) (madeV_lookup (hL i hi j hj).1) (fun _ _ _ => rfl)
  obtain ⟨σ', h1, x, rfl⟩ := key
  rw [← plP_all]
  refine fn_intro (σ' := ⟨plVs ps L x (some (.val (.dict (madeV ps)))), plP ps L ps⟩) hf rfl (by decide +kernel) (by decide +kernel) (by omega) (fl := .ret _) ?_ (.inl rfl)
  have hvs : initVs (fdScope S_players) (fdNames S_players) [.dict (dictV ps L), .list (ps.map nv)] = plVs ps L none none := by rfl
  rw [hvs]
  refine trs_cons ((tr_assign ((tr_dict (kvs := madeV ps) (by rfl) nd (fun _ => rfl) (make_comp N PI hB gC (by omega) ok (L := L) (vsC := [none, none, none]) (i1 := 1) (i2 := 2) (tr_name (i := 0) (p := .dict (dictV ps L)) (by rfl) (by rfl)) dictV_keys (by rfl) (by rfl) (by decide +kernel) (by rfl) (by rfl) (by simp) hps (fun _ _ => rfl)) ?_ (by rw [madeV_keys]; exact hnd) (by simp [madeV]; omega)).toD) (by rfl) (by rfl) (fun _ => rfl)).to (σ'' := ⟨plVs ps L none (some (.val (.dict (madeV ps)))), plP ps L []⟩) rfl) ?_
  · simp [madeV, Function.comp_def, nv]
  · refine trs_cons h1 ?_
    refine trs_stop (tr_return ((tr_compf (l := ps) (f := nv) (val := ob) (keep := fun _ => true) (Inv := fun vs => ∃ x y, vs = [x, y, some (.val (.dict (madeV ps)))]) (tr_name (i := 1) (p := .list (ps.map nv)) (by rfl) (by rfl)) (.list _) rfl (by rfl) (by rfl) (by decide +kernel) ⟨_, _, rfl⟩ ?_ (by omega) (fun _ _ => rfl)).to (by rw [filter_id (fun _ _ => rfl)]))) (by simp)
    rintro j hj vs ⟨x, y, rfl⟩
    refine ⟨[x, some (.val (nv j)), some (.val (.dict (madeV ps)))], ⟨_, _, rfl⟩, (tra_name (by rfl) (by rfl)).to, ⟨rfl, rfl⟩, fun _ => ?_⟩
    exact tr_item_dict (x := nm j) (tr_name (i := 2) (p := .dict (madeV ps)) (by rfl) (by rfl)) (tr_name (i := 1) (p := nv j) (by rfl) (by rfl)) (madeV_lookup hj) (fun _ _ _ => rfl)
end
end RM
end
noncomputable section
namespace RM
structure CycData (ps : List Pl) (T : Pl → List Pl) (S : List (List (Pl × Pl))) (cyc : List (Pl × Pl)) : Prop where
  cok : CycOk ps T cyc
  isc : IsCyc ps T cyc
  due : DueOk ps T cyc
  hX : (pairsUp T cyc cyc.length).map (fun q => srt2 q.1 q.2) = dueUp T cyc cyc.length
  hXne : ∀ q ∈ pairsUp T cyc cyc.length, q.1 ≠ q.2
  hXm : ∀ q ∈ pairsUp T cyc cyc.length, q.1 ∈ ps ∧ q.2 ∈ ps
  hXl : (pairsUp T cyc cyc.length).length < 64
  tak : Taken ps T cyc (dueUp T cyc cyc.length) S
def Turn (ps : List Pl) (T : Pl → List Pl) (S : List (List (Pl × Pl))) (i : Pl) : Prop :=
  ∃ ls ss w, LocRun ps T [i] [] i ls ss w ∧ CycData ps T S ((ls.drop (ls.idxOf w + 1)).zip (ss.drop (ls.idxOf w)))
def stableOf (ps : List Pl) (L : Pl → List Pl) : List (List (Pl × Pl)) := (pairF 6 ps).filter fun P => decide (stb ps L (mf P))
def wVs (ls pls tb st x5 x6 x7 x8 : Option Bind) : List (Option Bind) := [none, ls, pls, tb, st, x5, x6, x7, x8, none, none, none, none, none, none, none, none, none, none, none]
structure Fns (c : KB) : Prop where
  ne : c.mg "enumerate" = none
  nl : c.mg "len" = none
  nd : c.mg "dict" = none
  nli : c.mg "list" = none
  nz : c.mg "zip" = none
  ns : c.mg "sorted" = none
  dm : c.mg "divmod" = none
  order : ∃ a, FnOk c a S_order ∧ c.mg "_law_order" = some (.ref a)
  lists : ∃ a, FnOk c a S_lists ∧ c.mg "_law_lists" = some (.ref a)
  players : ∃ a, FnOk c a S_players ∧ c.mg "_law_players" = some (.ref a)
  first : ∃ a, FnOk c a S_first ∧ c.mg "first_phase" = some (.ref a)
  delete : ∃ a, FnOk c a S_delete ∧ c.mg "_delete_pair" = some (.ref a)
  meths : Nonempty (Meths c)
  left : ∃ a, FnOk c a S_left ∧ c.mg "_law_left" = some (.ref a)
  pairings : ∃ a, FnOk c a S_pairings ∧ c.mg "_law_pairings" = some (.ref a)
  stable : ∃ a, FnOk c a S_stable ∧ c.mg "_law_is_stable" = some (.ref a)
  locate : ∃ a, FnOk c a S_locate ∧ c.mg "locate_all_or_nothing_cycle" = some (.ref a)
  pairs : ∃ a, FnOk c a S_pairs ∧ c.mg "get_pairs_to_delete" = some (.ref a)
  within : ∃ a, FnOk c a S_within ∧ c.mg "_law_is_within" = some (.ref a)
  cycle : ∃ a, FnOk c a S_cycle ∧ c.mg "_law_is_cycle" = some (.ref a)
  taken : ∃ a, FnOk c a S_taken ∧ c.mg "_law_is_taken" = some (.ref a)
  setp : ∃ a, FnOk c a S_setprefs ∧ MethAt c "set_prefs" a
  cls : ∃ aI aB, ClsNew c aI ∧ PInit c S_pinit aI aB ∧ FnOk c aB S_binit
  gC : c.mg "Player" = some (.ref c.C)
section
variable {c : KB} {k : Nat} {ps : List Pl} {L T : Pl → List Pl} {mt : Pl → Option Pl} {S : List (List (Pl × Pl))}
theorem law_turn (H : Fns c) (hk : k + 10 ≤ 150) (ok : PsOk ps) (hnd : ps.Nodup) (hps : ps.length ≤ 100) (hSl : S.length ≤ 10000) {i : Pl} (hi : i ∈ ps) (ht : 1 < (T i).length → Turn ps T S i) (x5 x6 x7 x8 : Option Bind) :
    ∃ x6' x7' x8', TrSs c k (fdScope S_law) ⟨wVs (some (.val (.dict (dictV ps L)))) (some (.val (.list (ps.map ob)))) (some (.val (.dict (dictV ps T)))) (some (.val (.list (S.map dP)))) (some (.val (ob i))) x6 x7 x8, plOf ps L T mt⟩
      (bodyOf (nthS 5 (fdBody S_law))) .next
      ⟨wVs (some (.val (.dict (dictV ps L)))) (some (.val (.list (ps.map ob)))) (some (.val (.dict (dictV ps T)))) (some (.val (.list (S.map dP)))) (some (.val (ob i))) x6' x7' x8', plOf ps L T mt⟩ := by
  have test : ∀ b, decide (1 < (T i).length) = b → TrT c k (fdScope S_law) ⟨wVs (some (.val (.dict (dictV ps L)))) (some (.val (.list (ps.map ob)))) (some (.val (.dict (dictV ps T)))) (some (.val (.list (S.map dP)))) (some (.val (ob i))) x6 x7 x8, plOf ps L T mt⟩ (match nthS 0 (bodyOf (nthS 5 (fdBody S_law))) with | .If t _ _ _ => t | _ => .Constant .none 0 ⟨0, 0, 0, 0⟩) b ⟨wVs (some (.val (.dict (dictV ps L)))) (some (.val (.list (ps.map ob)))) (some (.val (.dict (dictV ps T)))) (some (.val (.list (S.map dP)))) (some (.val (ob i))) x6 x7 x8, plOf ps L T mt⟩ := by
    intro b hb
    refine (trt_cmp (tr_len (xs := (T i).map ob) (by rfl) H.nl (fun _ => rfl) (tr_attr (i := i.val) (tr_name (i := 5) (p := ob i) (by rfl) (by rfl)) (plOf_get ok hi) (by decide +kernel) (by rfl) (fun _ => rfl)).toV) tr_int.toV cmp_gt_int rfl).to ?_
    rw [← hb]; apply decide_eq_decide.mpr; rw [List.length_map]; omega
  by_cases h : 1 < (T i).length
  · obtain ⟨ls, ss, w, hloc, D⟩ := ht h
    obtain ⟨aL, fL, gL⟩ := H.locate
    obtain ⟨aP, fP, gP⟩ := H.pairs
    obtain ⟨aC, fC, gC⟩ := H.cycle
    obtain ⟨aT, fT, gT⟩ := H.taken
    obtain ⟨aW, fW, gW⟩ := H.within
    have sloc := loc_spec (c := c) (k := k) (L := L) (mt := mt) H.nli H.nz fL (by omega) ok hloc
    generalize (ls.drop (ls.idxOf w + 1)).zip (ss.drop (ls.idxOf w)) = cyc at D sloc
    let V (x6 x7 x8 : Option Bind) : St := ⟨wVs (some (.val (.dict (dictV ps L)))) (some (.val (.list (ps.map ob)))) (some (.val (.dict (dictV ps T)))) (some (.val (.list (S.map dP)))) (some (.val (ob i))) x6 x7 x8, plOf ps L T mt⟩
    refine ⟨some (.val (.list (cyc.map prV))), some (.val (.list ((pairsUp T cyc cyc.length).map prN))), some (.val (.list (cyc.map prN))), ?_⟩
    refine trs_cons (tr_if (b := true) (test true (by simpa using h)) (fun _ => ?_) (fun q => by cases q)) trs_nil
    refine trs_cons ((tr_assign (tr_call (by rfl) gL fL.isFn (fun _ => rfl) (tra_cons (fun _ => rfl) (tr_name (i := 5) (p := ob i) (by rfl) (by rfl)) tra_nil) sloc) (by rfl) (by rfl) (fun _ => rfl)).to (σ'' := V (some (.val (.list (cyc.map prV)))) x7 x8) rfl) ?_
    refine trs_cons ((tr_assign_compf (l := pairsUp T cyc cyc.length) (f := prV) (val := prN) (keep := fun _ => true) (Inv := fun vs => ∃ x y z, vs = [x, y, z]) (by rfl) (by rfl) (tr_call (by rfl) gP fP.isFn (fun _ => rfl) (tra_cons (fun _ => rfl) (tr_name (i := 6) (p := .list (cyc.map prV)) (by rfl) (by rfl)) tra_nil) (pairs_spec H.ne H.nl fP (by omega) ok D.cok)) (.list _) rfl (by rfl) (by rfl) (by decide +kernel) ⟨_, _, _, rfl⟩ ?_ (by have := D.hXl; omega) (fun _ _ => rfl)).to (σ'' := V (some (.val (.list (cyc.map prV)))) (some (.val (.list ((pairsUp T cyc cyc.length).map prN)))) x8) (by rw [filter_id (fun _ _ => rfl)]; rfl)) ?_
    · rintro q hq vs ⟨x, y, z, rfl⟩
      obtain ⟨m1, m2⟩ := D.hXm q hq
      refine ⟨[x, some (.val (ob q.1)), some (.val (ob q.2))], ⟨_, _, _, rfl⟩, ((tra_tuple (.cons (tra_name (by rfl) (by rfl)) (.cons (tra_name (by rfl) (by rfl)) .nil)) (fun _ => rfl)).to rfl), ⟨rfl, rfl⟩, fun _ => ?_⟩
      exact tr_tuple (ps := [nv q.1, nv q.2]) (tra_cons (fun _ => rfl) (tr_attr (i := q.1.val) (p := nv q.1) (tr_name (i := 1) (p := ob q.1) (by rfl) (by rfl)) (plOf_get ok m1) (by decide +kernel) (by rfl) (fun _ => rfl)) (tra_cons (fun _ => rfl) (tr_attr (i := q.2.val) (p := nv q.2) (tr_name (i := 2) (p := ob q.2) (by rfl) (by rfl)) (plOf_get ok m2) (by decide +kernel) (by rfl) (fun _ => rfl)) tra_nil)) (by simp)
    refine trs_cons ((tr_assign_compf (l := cyc) (f := prV) (val := prN) (keep := fun _ => true) (Inv := fun vs => ∃ x y z, vs = [x, y, z]) (by rfl) (by rfl) (tr_name (i := 6) (p := .list (cyc.map prV)) (by rfl) (by rfl)) (.list _) rfl (by rfl) (by rfl) (by decide +kernel) ⟨_, _, _, rfl⟩ ?_ (by have := D.cok.len; omega) (fun _ _ => rfl)).to (σ'' := V (some (.val (.list (cyc.map prV)))) (some (.val (.list ((pairsUp T cyc cyc.length).map prN)))) (some (.val (.list (cyc.map prN))))) (by rw [filter_id (fun _ _ => rfl)]; rfl)) ?_
    · rintro q hq vs ⟨x, y, z, rfl⟩
      obtain ⟨m1, m2⟩ := D.cok.mem q hq
      refine ⟨[x, some (.val (ob q.1)), some (.val (ob q.2))], ⟨_, _, _, rfl⟩, ((tra_tuple (.cons (tra_name (by rfl) (by rfl)) (.cons (tra_name (by rfl) (by rfl)) .nil)) (fun _ => rfl)).to rfl), ⟨rfl, rfl⟩, fun _ => ?_⟩
      exact tr_tuple (ps := [nv q.1, nv q.2]) (tra_cons (fun _ => rfl) (tr_attr (i := q.1.val) (p := nv q.1) (tr_name (i := 1) (p := ob q.1) (by rfl) (by rfl)) (plOf_get ok m1) (by decide +kernel) (by rfl) (fun _ => rfl)) (tra_cons (fun _ => rfl) (tr_attr (i := q.2.val) (p := nv q.2) (tr_name (i := 2) (p := ob q.2) (by rfl) (by rfl)) (plOf_get ok m2) (by decide +kernel) (by rfl) (fun _ => rfl)) tra_nil)) (by simp)
    refine trs_cons (tr_if (b := false) (σ₁ := V (some (.val (.list (cyc.map prV)))) (some (.val (.list ((pairsUp T cyc cyc.length).map prN)))) (some (.val (.list (cyc.map prN))))) ?_ (fun q => by cases q) (fun _ => trs_nil)) trs_nil
    refine (trt_or (b := false) (b' := false) ((trt_not (trt_bool (tr_call (by rfl) gC fC.isFn (fun _ => rfl) (tra_cons (fun _ => rfl) (tr_name (i := 3) (p := .dict (dictV ps T)) (by rfl) (by rfl)) (tra_cons (fun _ => rfl) (tr_name (i := 8) (p := .list (cyc.map prN)) (by rfl) (by rfl)) tra_nil)) (cycle_spec H.ne H.nl H.nd fC (by omega) D.isc)) (fun _ _ => rfl))).to rfl) fun _ => ?_).to rfl
    refine (trt_not (trt_bool (tr_call (by rfl) gT fT.isFn (fun _ => rfl) (tra_cons (fun _ => rfl) (tr_name (i := 3) (p := .dict (dictV ps T)) (by rfl) (by rfl)) (tra_cons (fun _ => rfl) (tr_name (i := 8) (p := .list (cyc.map prN)) (by rfl) (by rfl)) (tra_cons (fun _ => rfl) (tr_name (i := 7) (p := .list ((pairsUp T cyc cyc.length).map prN)) (by rfl) (by rfl)) (tra_cons (fun _ => rfl) (tr_name (i := 4) (p := .list (S.map dP)) (by rfl) (by rfl)) tra_nil)))) (taken_spec H.ne H.nl H.ns H.nd H.nli fW gW fT (by omega) hnd hps D.due D.hX D.hXne D.hXl hSl D.tak)) (fun _ _ => rfl))).to rfl
  · exact ⟨x6, x7, x8, trs_cons (tr_if (b := false) (test false (by simpa using h)) (fun q => by cases q) (fun _ => trs_nil)) trs_nil⟩
end
end RM
end
noncomputable section
namespace RM
theorem dictV_emb (ps : List Pl) (T : Pl → List Pl) : dictV ps T = (ps.map fun i => (nm i, (T i).map nm)).map fun p => (p.1, embL p.2) := by
  simp only [dictV, List.map_map, Function.comp_def]
  apply List.map_congr_left
  intro i _
  show (nm i, lV (T i)) = _
  rw [lV_eq]
section
variable {c : KB} {k : Nat} {ps : List Pl} {L T : Pl → List Pl} {mt : Pl → Option Pl}
theorem law_rest (H : Fns c) (hk : k + 10 ≤ 150) (ok : PsOk ps) (hps : ps.length ≤ 6) (hL : ∀ i ∈ ps, ∀ j ∈ L i, j ∈ ps ∧ j ≠ i) (hLO : LOk ps L) (hll : ∀ i, (L i).length ≤ 100) (hT : ∀ i, (T i).length ≤ 100) (hTm : ∀ x y, y ∈ T x → y ∈ ps)
    (hrun : P1Run ps ps L (fun _ => none) T mt) (hmate : ∀ P ∈ pairF 6 ps, MateOk ps P (mf P) ∧ ∀ i ∈ ps, mf P i ∈ L i) (hSl : (pairF 6 ps).length ≤ 10000)
    (hturn : ∀ i ∈ ps, 1 < (T i).length → Turn ps T (stableOf ps L) i) :
    ∃ σ', TrSs c k (fdScope S_law) ⟨wVs (some (.val (.dict (dictV ps L)))) none none none none none none none, []⟩ ((fdBody S_law).drop 1) (.ret (.bool true)) σ' := by
  obtain ⟨aP, fP, gP⟩ := H.players
  obtain ⟨aF, fF, gF⟩ := H.first
  obtain ⟨aD, fD, gD⟩ := H.delete
  obtain ⟨M⟩ := H.meths
  obtain ⟨aL, fL, gL⟩ := H.left
  obtain ⟨aR, fR, gR⟩ := H.pairings
  obtain ⟨aB, fB, gB⟩ := H.stable
  obtain ⟨aS, fS, mS⟩ := H.setp
  obtain ⟨aI, aN, N, PI, hN⟩ := H.cls
  let V (pls tb st x5 x6 x7 x8 : Option Bind) : List (Option Bind) := wVs (some (.val (.dict (dictV ps L)))) pls tb st x5 x6 x7 x8
  have hkeys : keysPV (dictV ps L) = ps.map nv := by simp [keysPV, dictV, Function.comp_def, nv]
  have hSl' : (stableOf ps L).length ≤ 10000 := Nat.le_trans (List.length_filter_le _ _) hSl
  have key : ∃ σ', TrS c k (fdScope S_law) ⟨V (some (.val (.list (ps.map ob)))) (some (.val (.dict (dictV ps T)))) (some (.val (.list ((stableOf ps L).map dP)))) none none none none, plOf ps L T mt⟩ (nthS 5 (fdBody S_law)) .next σ' ∧ ∃ x5 x6 x7 x8, σ' = ⟨V (some (.val (.list (ps.map ob)))) (some (.val (.dict (dictV ps T)))) (some (.val (.list ((stableOf ps L).map dP)))) x5 x6 x7 x8, plOf ps L T mt⟩ := by
    refine tr_for_inv (f := ob) (l := ps) (fun done σ => ∃ x5 x6 x7 x8, σ = ⟨V (some (.val (.list (ps.map ob)))) (some (.val (.dict (dictV ps T)))) (some (.val (.list ((stableOf ps L).map dP)))) x5 x6 x7 x8, plOf ps L T mt⟩) (tr_name (i := 2) (p := .list (ps.map ob)) (by rfl) (by rfl)) rfl ⟨_, _, _, _, rfl⟩ ?_ (fun _ _ => rfl)
    rintro i done rest σ hsp ⟨x5, x6, x7, x8, rfl⟩
    have hi : i ∈ ps := by rw [hsp]; simp
    obtain ⟨x6', x7', x8', ht⟩ := law_turn (L := L) (mt := mt) H hk ok ok.nd (by omega) hSl' hi (hturn i hi) x5 x6 x7 x8
    exact ⟨_, .next, _, (tra_name (by rfl) (by rfl)).to, ht, .inl rfl, ⟨_, _, _, _, rfl⟩⟩
  obtain ⟨σ', h1, x5, x6, x7, x8, rfl⟩ := key
  refine ⟨⟨V (some (.val (.list (ps.map ob)))) (some (.val (.dict (dictV ps T)))) (some (.val (.list ((stableOf ps L).map dP)))) x5 x6 x7 x8, plOf ps L T mt⟩, ?_⟩
  refine trs_cons ((tr_assign (tr_call (by rfl) gP fP.isFn (fun _ => rfl) (tra_cons (fun _ => rfl) (tr_name (i := 1) (p := .dict (dictV ps L)) (by rfl) (by rfl)) (tra_cons (fun _ => rfl) ((tr_list_keys (kvs := dictV ps L) (by rfl) H.nli (fun _ => rfl) (tr_name (i := 1) (p := .dict (dictV ps L)) (by rfl) (by rfl))).toE.to (by rw [hkeys])) tra_nil)) (players_spec (k := k) H.nd N PI hN H.gC fS mS fP (by omega) ok (by omega) hL (fun i => by have := hll i; omega))) (by rfl) (by rfl) (fun _ => rfl)).to (σ'' := ⟨V (some (.val (.list (ps.map ob)))) none none none none none none, plOf ps L L (fun _ => none)⟩) rfl) ?_
  refine trs_cons ((tr_expr' (tr_call (by rfl) gF fF.isFn (fun _ => rfl) (tra_cons (fun _ => rfl) (tr_name (i := 2) (p := .list (ps.map ob)) (by rfl) (by rfl)) tra_nil) (first_spec (k := k) M fD gD fF (by omega) ok hrun)) (fun _ => rfl)).to (σ'' := ⟨V (some (.val (.list (ps.map ob)))) none none none none none none, plOf ps L T mt⟩) rfl) ?_
  refine trs_cons ((tr_assign (tr_call (by rfl) gL fL.isFn (fun _ => rfl) (tra_cons (fun _ => rfl) (tr_name (i := 2) (p := .list (ps.map ob)) (by rfl) (by rfl)) tra_nil) (left_spec H.nd fL (by omega) ok (by omega) (fun i => by have := hT i; omega) hTm)) (by rfl) (by rfl) (fun _ => rfl)).to (σ'' := ⟨V (some (.val (.list (ps.map ob)))) (some (.val (.dict (dictV ps T)))) none none none none none, plOf ps L T mt⟩) rfl) ?_
  refine trs_cons ((tr_assign_compf (l := pairF 6 ps) (f := dP) (val := dP) (keep := fun P => decide (stb ps L (mf P))) (Inv := fun vs => ∃ x y, vs = [x, y, none, some (.val (.dict (dictV ps L)))]) (by rfl) (by rfl) (tr_call (by rfl) gR fR.isFn (fun _ => rfl) (tra_cons (fun _ => rfl) ((tr_list_keys (kvs := dictV ps L) (by rfl) H.nli (fun _ => rfl) (tr_name (i := 1) (p := .dict (dictV ps L)) (by rfl) (by rfl))).toE.to (by rw [hkeys])) tra_nil) (pairings_spec H.nd H.nli gR fR 6 k ps (by omega) (by omega) hps ok.nd)) (.list _) rfl (by rfl) (by rfl) (by decide +kernel) ⟨_, _, rfl⟩ ?_ (by omega) (fun _ _ => rfl)).to (σ'' := ⟨V (some (.val (.list (ps.map ob)))) (some (.val (.dict (dictV ps T)))) (some (.val (.list ((stableOf ps L).map dP)))) none none none none, plOf ps L T mt⟩) rfl) ?_
  · rintro P hP vs ⟨x, y, rfl⟩
    obtain ⟨hM, hm⟩ := hmate P hP
    refine ⟨[x, some (.val (dP P)), none, some (.val (.dict (dictV ps L)))], ⟨_, _, rfl⟩, (tra_name (by rfl) (by rfl)).to, ?_, fun _ => tr_name (i := 1) (by rfl) (by rfl)⟩
    exact trt_bool (tr_call (by rfl) gB fB.isFn (fun _ => rfl) (tra_cons (fun _ => rfl) (tr_name (i := 3) (p := .dict (dictV ps L)) (by rfl) (by rfl)) (tra_cons (fun _ => rfl) (tr_name (i := 1) (p := dP P) (by rfl) (by rfl)) tra_nil)) (stable_spec fB (by omega) hLO hM hm)) (fun _ _ => rfl)
  refine trs_cons h1 ?_
  refine trs_stop (tr_return (tr_cmp (b := true) (tr_call (by rfl) gL fL.isFn (fun _ => rfl) (tra_cons (fun _ => rfl) (tr_name (i := 2) (p := .list (ps.map ob)) (by rfl) (by rfl)) tra_nil) (left_spec H.nd fL (by omega) ok (by omega) (fun i => by have := hT i; omega) hTm)) (tr_name (i := 3) (p := .dict (dictV ps T)) (by rfl) (by rfl)).toV ?_ rfl)) (by simp)
  rw [dictV_emb]; exact cmp_eq_dict
end
end RM
end
noncomputable section
namespace RM
theorem kvP_lookup {i j : Pl} : ∀ {P : List (Pl × Pl)}, P.lookup i = some j → (kvP P).lookup (nm i) = some (nv j)
  | [], h => by simp at h
  | (a, b) :: P, h => by
    simp only [kvP, List.map_cons, List.lookup_cons] at h ⊢
    by_cases e : i = a
    · subst e; simp at h ⊢; rw [h]
    · have h1 : (nm i == nm a) = false := by
        have : nm i ≠ nm a := fun q => e (nm_inj _ _ q)
        simpa using this
      have h2 : (i == a) = false := by simpa using e
      simp only [h1, h2] at h ⊢
      exact kvP_lookup h
theorem lookup_memP {i j : Pl} : ∀ {P : List (Pl × Pl)}, P.lookup i = some j → (i, j) ∈ P
  | [], h => by simp at h
  | (a, b) :: P, h => by
    simp only [List.lookup_cons] at h
    by_cases e : i = a
    · subst e; simp at h; simp [h]
    · have h2 : (i == a) = false := by simpa using e
      simp only [h2] at h
      exact List.mem_cons_of_mem _ (lookup_memP h)
theorem lookup_skip {i a b : Pl} {P : List (Pl × Pl)} (h1 : i ≠ a) (h2 : i ≠ b) : ((a, b) :: (b, a) :: P).lookup i = P.lookup i := by
  have e1 : (i == a) = false := by simpa using h1
  have e2 : (i == b) = false := by simpa using h2
  simp [List.lookup_cons, e1, e2]
theorem rem_len (r : List Pl) (o : Pl) (nd : r.Nodup) (h : o ∈ r) : (rem r o).length + 1 = r.length := by
  induction r with
  | nil => cases h
  | cons a r ih =>
    rw [List.nodup_cons] at nd
    by_cases e : a = o
    · subst e
      have : rem (a :: r) a = r := by
        simp only [rem, List.filter_cons]
        simp only [decide_true, Bool.not_true, Bool.false_eq_true, if_false]
        apply List.filter_eq_self.mpr
        intro x hx
        simp only [Bool.not_eq_true', decide_eq_false_iff_not]
        intro q; subst q; exact nd.1 hx
      rw [this]; rfl
    · have hr : o ∈ r := by simpa [Ne.symm e] using h
      have := ih nd.2 hr
      have q : rem (a :: r) o = a :: rem r o := by simp [rem, e]
      rw [q]; simp [this]
theorem mem_rem {r : List Pl} {o x : Pl} : x ∈ rem r o ↔ x ∈ r ∧ x ≠ o := by simp [rem]
theorem pairF_mate : ∀ (f : Nat) (l : List Pl), l.Nodup → ∀ P ∈ pairF f l, ∀ i ∈ l, ∃ j, P.lookup i = some j ∧ j ∈ l ∧ j ≠ i ∧ P.lookup j = some i
  | f, [], nd, P, h => by intro i hi; cases hi
  | 0, x :: r, nd, P, h => by simp [pairF] at h
  | f + 1, x :: r, nd, P, h => by
    simp only [pairF, List.mem_flatMap, List.mem_map] at h
    obtain ⟨o, ho, P', hP', rfl⟩ := h
    rw [List.nodup_cons] at nd
    have hxo : x ≠ o := fun e => nd.1 (e ▸ ho)
    have ih := pairF_mate f (rem r o) (nd.2.filter _) P' hP'
    intro i hi
    by_cases e1 : i = x
    · subst e1
      exact ⟨o, by simp, by simp [ho], hxo.symm, by simp [List.lookup_cons, hxo.symm, beq_eq_false_iff_ne.mpr hxo.symm]⟩
    · by_cases e2 : i = o
      · subst e2
        exact ⟨x, by simp [List.lookup_cons, beq_eq_false_iff_ne.mpr hxo.symm], by simp, hxo, by simp⟩
      · have hi' : i ∈ rem r o := mem_rem.mpr ⟨by simpa [e1] using hi, e2⟩
        obtain ⟨j, h1, h2, h3, h4⟩ := ih i hi'
        obtain ⟨j1, j2⟩ := mem_rem.mp h2
        refine ⟨j, by rw [lookup_skip e1 e2]; exact h1, by simp [j1], h3, ?_⟩
        rw [lookup_skip (fun (q : j = x) => nd.1 (q ▸ j1)) j2]; exact h4
theorem pairF_all : ∀ (f : Nat) (l : List Pl) (M : Pl → Pl), l.Nodup → l.length ≤ f → (∀ i ∈ l, M i ∈ l ∧ M i ≠ i ∧ M (M i) = i) → ∃ P ∈ pairF f l, ∀ i ∈ l, mf P i = M i
  | f, [], M, nd, hl, h => ⟨[], by cases f <;> simp [pairF], by intro i hi; cases hi⟩
  | 0, x :: r, M, nd, hl, h => by simp at hl
  | f + 1, x :: r, M, nd, hl, h => by
    rw [List.nodup_cons] at nd
    obtain ⟨h1, h2, h3⟩ := h x (by simp)
    have ho : M x ∈ r := by simpa [h2] using h1
    have hxo : x ≠ M x := Ne.symm h2
    obtain ⟨P, hP, hm⟩ := pairF_all f (rem r (M x)) M (nd.2.filter _) (by have := rem_len r (M x) nd.2 ho; simp at hl; omega) (by
      intro i hi
      obtain ⟨i1, i2⟩ := mem_rem.mp hi
      obtain ⟨a1, a2, a3⟩ := h i (by simp [i1])
      have hne : M i ≠ x := fun q => i2 (by rw [← q, a3])
      refine ⟨mem_rem.mpr ⟨by simpa [hne] using a1, fun q => ?_⟩, a2, a3⟩
      have : i = x := by rw [← a3, q, h3]
      exact nd.1 (this ▸ i1))
    refine ⟨(x, M x) :: (M x, x) :: P, ?_, ?_⟩
    · simp only [pairF, List.mem_flatMap, List.mem_map]
      exact ⟨M x, ho, P, hP, rfl⟩
    · intro i hi
      by_cases e1 : i = x
      · subst e1; simp [mf]
      · by_cases e2 : i = M x
        · subst e2; simp [mf, List.lookup_cons, beq_eq_false_iff_ne.mpr h2, h3]
        · have hi' : i ∈ rem r (M x) := mem_rem.mpr ⟨by simpa [e1] using hi, e2⟩
          have := hm i hi'
          unfold mf at this ⊢
          rw [lookup_skip e1 e2]; exact this
structure Inv (ps : List Pl) (M : Pl → Pl) : Prop where
  mem : ∀ i ∈ ps, M i ∈ ps
  ne : ∀ i ∈ ps, M i ≠ i
  inv : ∀ i ∈ ps, M (M i) = i
theorem mf_inv {f : Nat} {l : List Pl} (nd : l.Nodup) {P : List (Pl × Pl)} (h : P ∈ pairF f l) : Inv l (mf P) := by
  have hm := pairF_mate f l nd P h
  refine ⟨fun i hi => ?_, fun i hi => ?_, fun i hi => ?_⟩ <;> obtain ⟨j, h1, h2, h3, h4⟩ := hm i hi
  · simpa [mf, h1] using h2
  · simpa [mf, h1] using h3
  · simp [mf, h1, h4]
theorem mf_mate {f : Nat} {l : List Pl} (nd : l.Nodup) {P : List (Pl × Pl)} (h : P ∈ pairF f l) : MateOk l P (mf P) := by
  have hm := pairF_mate f l nd P h
  refine ⟨fun i hi => ?_, fun q hq => ((pairF_keys f l nd P h).2.1 q hq).1, fun i hi => ?_⟩
  · obtain ⟨j, h1, h2, h3, h4⟩ := hm i hi
    simp only [mf, h1, Option.getD_some]
    exact kvP_lookup h1
  · obtain ⟨j, h1, h2, h3, h4⟩ := hm i hi
    exact List.mem_map.mpr ⟨(i, j), lookup_memP h1, rfl⟩
end RM
end
noncomputable section
namespace RM
def bef (L : Pl → List Pl) (i a b : Pl) : Prop := (L i).idxOf a < (L i).idxOf b
structure LGood (ps : List Pl) (L : Pl → List Pl) : Prop where
  mem : ∀ i j, j ∈ L i → j ∈ ps
  own : ∀ i j, j ∈ L i → i ∈ ps
  ne : ∀ i, i ∉ L i
  nd : ∀ i, (L i).Nodup
  all : ∀ i ∈ ps, ∀ j ∈ ps, j ≠ i → j ∈ L i
structure Ph (ps : List Pl) (L : Pl → List Pl) (F : List Pl) (pr : Pl → List Pl) (mt : Pl → Option Pl) : Prop where
  fnd : F.Nodup
  fmem : ∀ p ∈ F, p ∈ ps
  fne : ∀ p ∈ F, pr p ≠ []
  sub : ∀ i, (pr i).Sublist (L i)
  sym : ∀ i j, j ∈ pr i → i ∈ pr j
  held : ∀ f p, mt f = some p → (pr p).head? = some f ∧ (pr f).getLast? = some p ∧ p ∉ F
  free : ∀ i, pr i ≠ [] → i ∈ F ∨ ∃ f, mt f = some i
  del : ∀ i j, j ∈ L i → j ∉ pr i → (∀ x ∈ pr i, bef L i x j) ∨ (∀ x ∈ pr j, bef L j x i)
theorem idxOf_split {A D : List Pl} {p : Pl} (h : p ∉ A) : (A ++ p :: D).idxOf p = A.length := by
  simp [List.idxOf_append, h]
theorem sucs_split {l : List Pl} {p : Pl} (hp : p ∈ l) (nd : l.Nodup) : ∃ A D, l = A ++ p :: D ∧ l.drop (l.idxOf p + 1) = D ∧ l.filter (fun y => !decide (y ∈ D)) = A ++ [p] ∧ p ∉ D := by
  obtain ⟨A, D, rfl⟩ := List.append_of_mem hp
  have h2 := List.nodup_append.mp nd
  obtain ⟨hA, hpD, hdis⟩ := h2
  rw [List.nodup_cons] at hpD
  have hpA : p ∉ A := fun q => hdis p q p (by simp) rfl
  refine ⟨A, D, rfl, ?_, ?_, hpD.1⟩
  · rw [idxOf_split hpA]
    simp [List.drop_append]
  · rw [List.filter_append, List.filter_cons]
    rw [if_pos (by simpa using hpD.1)]
    have e1 : A.filter (fun y => !decide (y ∈ D)) = A := List.filter_eq_self.mpr fun x hx => by
      simp only [Bool.not_eq_true', decide_eq_false_iff_not]
      exact fun q => hdis x hx x (by simp [q]) rfl
    have e2 : D.filter (fun y => !decide (y ∈ D)) = [] := List.filter_eq_nil_iff.mpr fun x hx => by simp [hx]
    rw [e1, e2]
theorem bef_of_split {L : Pl → List Pl} {i : Pl} {l : List Pl} (hs : l.Sublist (L i)) (nd : (L i).Nodup) {A B : List Pl} {b : Pl} (e : l = A ++ b :: B) : ∀ x ∈ A, bef L i x b := by
  intro x hx
  have pw : (L i).Pairwise (bef L i) := by
    rw [List.pairwise_iff_getElem]
    intro m n hm hn hmn
    unfold bef
    rw [nd.idxOf_getElem _ hm, nd.idxOf_getElem _ hn]; exact hmn
  have := pw.sublist hs
  rw [e, List.pairwise_append] at this
  exact this.2.2 x hx b (by simp)
theorem head_filter {l : List Pl} {g : Pl} {q : Pl → Bool} (h : l.head? = some g) (hq : q g = true) : (l.filter q).head? = some g := by
  cases l with
  | nil => simp at h
  | cons a l => simp at h; subst h; simp [hq]
theorem last_filter {l : List Pl} {g : Pl} {q : Pl → Bool} (h : l.getLast? = some g) (hq : q g = true) : (l.filter q).getLast? = some g := by
  obtain ⟨l', rfl⟩ := List.getLast?_eq_some_iff.mp h
  rw [List.filter_append]
  simp [hq]
theorem head_mem' {l : List Pl} {g : Pl} (h : l.head? = some g) : g ∈ l := by
  cases l with
  | nil => simp at h
  | cons a l => simp at h; simp [h]
section
variable {ps F : List Pl} {L pr : Pl → List Pl} {mt : Pl → Option Pl} {p f : Pl}
theorem prd_mem {D : List Pl} (hfD : f ∉ D) {i j : Pl} : j ∈ prd pr f D i ↔ j ∈ pr i ∧ ¬ (i = f ∧ j ∈ D) ∧ ¬ (i ∈ D ∧ j = f) := by
  unfold prd
  by_cases e : i = f
  · subst e
    rw [if_pos rfl]
    simp [hfD]
  · rw [if_neg e]
    by_cases h : i ∈ D
    · rw [if_pos h]; simp [e, h]
    · rw [if_neg h]; simp [e, h]
theorem prd_sub {D : List Pl} (i : Pl) : (prd pr f D i).Sublist (pr i) := by
  unfold prd
  split
  · rename_i e; subst e; exact List.filter_sublist
  · split
    · exact List.filter_sublist
    · exact List.Sublist.refl _
theorem Ph.step (G : LGood ps L) (I : Ph ps L (F ++ [p]) pr mt) (hd : (pr p).head? = some f) :
    Ph ps L (Fd pr f (sucs pr f p) (addCur F (mt f))) (prd pr f (sucs pr f p)) (upd mt f (some p)) := by
  have hfp : f ∈ pr p := head_mem' hd
  have hpf : p ∈ pr f := I.sym _ _ hfp
  have ndp : ∀ i, (pr i).Nodup := fun i => (I.sub i).nodup (G.nd i)
  have irr : ∀ i, i ∉ pr i := fun i h => G.ne i ((I.sub i).subset h)
  obtain ⟨A, D, e1, e2, e3, e4⟩ := sucs_split hpf (ndp f)
  have hD : sucs pr f p = D := e2
  rw [hD]
  have hDf : ∀ x ∈ D, x ∈ pr f := fun x hx => by rw [e1]; simp [hx]
  have hfD : f ∉ D := fun h => irr f (hDf f h)
  have hfF : ∀ {x}, x ∈ Fd pr f D (addCur F (mt f)) → x ∈ addCur F (mt f) := fun h => (List.mem_filter.mp h).1
  have hpF : p ∉ F := fun h => (List.nodup_append.mp I.fnd).2.2 p h p (by simp) rfl
  have hpps := I.fmem p (by simp)
  have hcur : ∀ {x}, x ∈ addCur F (mt f) → x ∈ F ∨ mt f = some x := by
    intro x hx
    cases hm : mt f with
    | none => rw [hm] at hx; exact .inl hx
    | some q =>
      rw [hm] at hx
      rcases List.mem_append.mp hx with h | h
      · exact .inl h
      · rw [List.mem_singleton] at h; subst h; exact .inr rfl
  have hpf' : prd pr f D f = A ++ [p] := by unfold prd; rw [if_pos rfl]; exact e3
  have hkeep : ∀ {x}, x ∈ F ∨ mt f = some x → prd pr f D x ≠ [] → x ∈ Fd pr f D (addCur F (mt f)) := by
    intro x hx hne
    refine List.mem_filter.mpr ⟨?_, ?_⟩
    · rcases hx with h | h
      · cases hm : mt f with
        | none => exact h
        | some q => exact List.mem_append_left _ h
      · rw [h]; exact List.mem_append_right _ (by simp)
    · by_cases hxD : x ∈ D
      · have hxf : x ≠ f := fun q => hfD (q ▸ hxD)
        have : prd pr f D x = (pr x).filter fun y => !decide (y = f) := by unfold prd; rw [if_neg hxf, if_pos hxD]
        rw [this] at hne
        simp [hxD]
        simpa using hne
      · simp [hxD]
  refine ⟨?_, ?_, ?_, ?_, ?_, ?_, ?_, ?_⟩
  · suffices h : (addCur F (mt f)).Nodup from h.filter _
    cases hm : mt f with
    | none => exact (List.nodup_append.mp I.fnd).1
    | some q =>
      have hq := (I.held f q hm).2.2
      refine List.nodup_append.mpr ⟨(List.nodup_append.mp I.fnd).1, by simp, ?_⟩
      intro a ha b hb
      rw [List.mem_singleton] at hb; subst hb
      exact fun q => hq (by rw [← q]; simp [ha])
  · intro x hx
    rcases hcur (hfF hx) with h | h
    · exact I.fmem x (by simp [h])
    · exact G.own x f ((I.sub x).subset (head_mem' (I.held f x h).1))
  · intro x hx
    have hx2 := (List.mem_filter.mp hx).2
    by_cases hxD : x ∈ D
    · have hxf : x ≠ f := fun q => hfD (q ▸ hxD)
      have : prd pr f D x = (pr x).filter fun y => !decide (y = f) := by unfold prd; rw [if_neg hxf, if_pos hxD]
      rw [this]
      simp [hxD] at hx2
      simpa using hx2
    · by_cases hxf : x = f
      · rw [hxf, hpf']; simp
      · have : prd pr f D x = pr x := by unfold prd; rw [if_neg hxf, if_neg hxD]
        rw [this]
        rcases hcur (hfF hx) with h | h
        · exact I.fne x (by simp [h])
        · intro q; have := (I.held f x h).1; rw [q] at this; simp at this
  · exact fun i => (prd_sub i).trans (I.sub i)
  · intro i j h
    rw [prd_mem hfD] at h ⊢
    refine ⟨I.sym i j h.1, fun q => h.2.2 ⟨q.2, q.1⟩, fun q => h.2.1 ⟨q.2, q.1⟩⟩
  · intro g p' hg
    by_cases hgf : g = f
    · subst hgf
      rw [upd_self] at hg
      cases hg
      refine ⟨?_, by rw [hpf']; simp, fun h => ?_⟩
      · have hpg : p ≠ g := fun q => irr g (by rw [q] at hpf; exact hpf)
        have : prd pr g D p = pr p := by unfold prd; rw [if_neg hpg, if_neg e4]
        rw [this]; exact hd
      · rcases hcur (hfF h) with h | h
        · exact hpF h
        · exact (I.held g p h).2.2 (by simp)
    · rw [upd_ne _ _ hgf] at hg
      obtain ⟨h1, h2, h3⟩ := I.held g p' hg
      refine ⟨?_, ?_, fun h => ?_⟩
      · unfold prd
        split
        · rename_i q
          subst q
          refine head_filter h1 ?_
          simp only [Bool.not_eq_true', decide_eq_false_iff_not]
          intro hgD
          rw [e1] at h1
          cases A with
          | nil => simp at h1; exact e4 (h1 ▸ hgD)
          | cons a A =>
            simp at h1
            have := ndp p'
            rw [e1, h1] at this
            simp at this
            exact this.1.2.2 hgD
        · split
          · exact head_filter h1 (by simpa using hgf)
          · exact h1
      · unfold prd
        rw [if_neg hgf]
        split
        · rename_i hgD
          refine last_filter h2 ?_
          simp only [Bool.not_eq_true', decide_eq_false_iff_not]
          intro q
          subst q
          rw [e1] at h1
          cases A with
          | nil => simp at h1; exact e4 (h1 ▸ hgD)
          | cons a A =>
            simp at h1
            have := ndp p'
            rw [e1, h1] at this
            simp at this
            exact this.1.2.2 hgD
        · exact h2
      · rcases hcur (hfF h) with h | h
        · exact h3 (by simp [h])
        · have := (I.held f p' h).1
          rw [this] at h1; cases h1; exact hgf rfl
  · intro i hi
    have hi0 : pr i ≠ [] := fun q => hi (by have := (prd_sub (pr := pr) (f := f) (D := D) i); rw [q] at this; exact List.sublist_nil.mp this)
    rcases I.free i hi0 with h | ⟨g, hg⟩
    · rcases List.mem_append.mp h with h | h
      · exact .inl (hkeep (.inl h) hi)
      · rw [List.mem_singleton] at h; subst h
        exact .inr ⟨f, upd_self ..⟩
    · by_cases hgf : g = f
      · subst hgf
        exact .inl (hkeep (.inr hg) hi)
      · exact .inr ⟨g, by rw [upd_ne _ _ hgf]; exact hg⟩
  · intro i j hj hn
    by_cases hjp : j ∈ pr i
    · have : (i = f ∧ j ∈ D) ∨ (i ∈ D ∧ j = f) := by
        rw [prd_mem hfD] at hn
        by_cases q : (i = f ∧ j ∈ D)
        · exact .inl q
        · exact .inr (Classical.byContradiction fun q' => hn ⟨hjp, q, q'⟩)
      have key : ∀ d ∈ D, ∀ x ∈ prd pr f D f, bef L f x d := by
        intro d hd x hx
        rw [hpf'] at hx
        obtain ⟨B, C, hBC⟩ := List.append_of_mem hd
        refine bef_of_split (I.sub f) (G.nd f) (A := A ++ p :: B) (B := C) (b := d) (by rw [e1, hBC]; simp) x ?_
        rcases List.mem_append.mp hx with h | h
        · simp [h]
        · rw [List.mem_singleton] at h; simp [h]
      rcases this with ⟨rfl, h⟩ | ⟨h, rfl⟩
      · exact .inl (key j h)
      · exact .inr (key i h)
    · rcases I.del i j hj hjp with h | h
      · exact .inl fun x hx => h x ((prd_sub i).subset hx)
      · exact .inr fun x hx => h x ((prd_sub j).subset hx)
end
end RM
end
noncomputable section
namespace RM
theorem nodup_len : ∀ (l m : List Pl), l.Nodup → (∀ x ∈ l, x ∈ m) → l.length ≤ m.length
  | [], m, _, _ => by simp
  | a :: l, m, nd, h => by
    rw [List.nodup_cons] at nd
    have ha : a ∈ m := h a (by simp)
    have := nodup_len l (m.erase a) nd.2 (fun x hx => by
      have hxa : x ≠ a := fun q => nd.1 (q ▸ hx)
      exact (List.mem_erase_of_ne hxa).mpr (h x (by simp [hx])))
    rw [List.length_erase_of_mem ha] at this
    have hpos := List.length_pos_of_mem ha
    simp; omega
def sumL (ps : List Pl) (pr : Pl → List Pl) : Nat := (ps.map fun i => (pr i).length).sum
theorem sumL_le {pr pr' : Pl → List Pl} (h : ∀ i, (pr i).length ≤ (pr' i).length) : ∀ ps : List Pl, sumL ps pr ≤ sumL ps pr'
  | [] => by simp [sumL]
  | a :: ps => by
    have h1 := sumL_le h ps
    have h2 := h a
    simp only [sumL, List.map_cons, List.sum_cons] at *
    omega
theorem sumL_lt {pr pr' : Pl → List Pl} (h : ∀ i, (pr i).length ≤ (pr' i).length) {f : Pl} (hf : (pr f).length < (pr' f).length) : ∀ ps : List Pl, f ∈ ps → sumL ps pr < sumL ps pr'
  | a :: ps, hm => by
    have h1 := sumL_le h ps
    have h2 := h a
    by_cases e : f = a
    · subst e
      simp only [sumL, List.map_cons, List.sum_cons] at *
      omega
    · have := sumL_lt h hf ps (by simpa [e] using hm)
      simp only [sumL, List.map_cons, List.sum_cons] at *
      omega
theorem run_exists {ps : List Pl} {L : Pl → List Pl} (G : LGood ps L) (hps : ps.length ≤ 100) (hl : ∀ i, (L i).length ≤ 100) :
    ∀ n F pr mt, Ph ps L F pr mt → sumL ps pr + F.length ≤ n → ∃ T mt', P1Run ps F pr mt T mt' ∧ Ph ps L [] T mt' := by
  intro n
  induction n with
  | zero =>
    intro F pr mt I h
    have : F = [] := List.eq_nil_of_length_eq_zero (by omega)
    subst this
    exact ⟨pr, mt, .stop, I⟩
  | succ n ih =>
    intro F pr mt I h
    rcases List.eq_nil_or_concat F with rfl | ⟨F, p, rfl⟩
    · exact ⟨pr, mt, .stop, I⟩
    · rw [List.concat_eq_append] at I h ⊢
      obtain ⟨f, hd⟩ : ∃ f, (pr p).head? = some f := by
        have := I.fne p (by simp)
        cases e : pr p with
        | nil => exact absurd e this
        | cons a r => exact ⟨a, rfl⟩
      have I' := I.step G hd
      have hfp : f ∈ pr p := head_mem' hd
      have hpf : p ∈ pr f := I.sym _ _ hfp
      have ndp : ∀ i, (pr i).Nodup := fun i => (I.sub i).nodup (G.nd i)
      have irr : ∀ i, i ∉ pr i := fun i h => G.ne i ((I.sub i).subset h)
      have hfps : f ∈ ps := G.mem p f ((I.sub p).subset hfp)
      have hF := (List.nodup_append.mp I.fnd).1
      have hcur : (addCur F (mt f)).Nodup := by
        cases hm : mt f with
        | none => exact hF
        | some q =>
          have hq := (I.held f q hm).2.2
          refine List.nodup_append.mpr ⟨hF, by simp, ?_⟩
          intro a ha b hb
          rw [List.mem_singleton] at hb; subst hb
          exact fun q => hq (by rw [← q]; simp [ha])
      have hle : ∀ i, (prd pr f (sucs pr f p) i).length ≤ (pr i).length := fun i => (prd_sub i).length_le
      have hFd : (Fd pr f (sucs pr f p) (addCur F (mt f))).length ≤ (addCur F (mt f)).length := List.length_filter_le _ _
      obtain ⟨T, mt', hr, hI⟩ := ih _ _ _ I' (by
        cases hm : mt f with
        | none =>
          rw [hm] at hFd
          have := sumL_le hle ps
          simp only [addCur] at hFd ⊢
          simp at h
          omega
        | some q =>
          rw [hm] at hFd
          have hlt : (prd pr f (sucs pr f p) f).length < (pr f).length := by
            obtain ⟨A, D, e1, e2, e3, e4⟩ := sucs_split hpf (ndp f)
            have hD : sucs pr f p = D := e2
            have hpf' : prd pr f D f = A ++ [p] := by unfold prd; rw [if_pos rfl]; exact e3
            rw [hD, hpf', e1]
            obtain ⟨h1, h2, h3⟩ := I.held f q hm
            have hqp : q ≠ p := fun e => h3 (by simp [e])
            cases D with
            | nil => rw [e1] at h2; simp at h2; exact absurd h2.symm hqp
            | cons d D => simp
          have := sumL_lt hle hlt ps hfps
          simp only [addCur, List.length_append, List.length_singleton] at hFd ⊢
          simp at h
          omega)
      refine ⟨T, mt', .step ⟨I.fmem p (by simp), hfps, hd, hpf, fun m => ?_, fun x y h => G.mem x y ((I.sub x).subset h), ndp f, irr f, hcur, ?_⟩ hr, hI⟩
      · have := (I.sub m).length_le
        have := hl m
        omega
      · have := nodup_len F ps hF (fun x hx => I.fmem x (by simp [hx]))
        omega
structure Tab (ps : List Pl) (L T : Pl → List Pl) : Prop where
  sub : ∀ i, (T i).Sublist (L i)
  sym : ∀ i j, j ∈ T i → i ∈ T j
  fl : ∀ i j, (T i).head? = some j → (T j).getLast? = some i
  del : ∀ i j, j ∈ L i → j ∉ T i → (∀ x ∈ T i, bef L i x j) ∨ (∀ x ∈ T j, bef L j x i)
theorem phase1 {ps : List Pl} {L : Pl → List Pl} (G : LGood ps L) (hnd : ps.Nodup) (hps : ps.length ≤ 100) (h2 : 1 < ps.length) (hl : ∀ i, (L i).length ≤ 100) :
    ∃ T mt, P1Run ps ps L (fun _ => none) T mt ∧ Tab ps L T := by
  obtain ⟨T, mt, h, I⟩ := run_exists G hps hl _ ps L (fun _ => none) (by
    refine ⟨hnd, fun _ h => h, fun p hp e => ?_, fun i => List.Sublist.refl _, fun i j h => ?_, fun f p h => (by cases h), fun i h => ?_, fun i j h1 h2 => absurd h1 h2⟩
    · match ps, h2, hnd with
      | a :: b :: r, _, nd =>
        simp at nd
        by_cases q : a = p
        · have := G.all p hp b (by simp) (fun z => nd.1.1 (by rw [q, z]))
          rw [e] at this; cases this
        · have := G.all p hp a (by simp) q
          rw [e] at this; cases this
    · exact G.all j (G.mem i j h) i (G.own i j h) (fun q => G.ne j (by rw [← q] at h ⊢; exact h))
    · cases e : L i with
      | nil => exact absurd e h
      | cons a r => exact .inl (G.own i a (by rw [e]; simp))) (Nat.le_refl _)
  refine ⟨T, mt, h, I.sub, I.sym, fun i j hj => ?_, I.del⟩
  rcases I.free i (fun e => by rw [e] at hj; cases hj) with h | ⟨f, hf⟩
  · cases h
  · obtain ⟨h1, h2, _⟩ := I.held f i hf
    rw [hj] at h1; cases h1; exact h2
end RM
end
noncomputable section
namespace RM
theorem inj_surj {N : List Pl} {g : Pl → Pl} (nd : N.Nodup) (hm : ∀ i ∈ N, g i ∈ N) (hi : ∀ i ∈ N, ∀ j ∈ N, g i = g j → i = j) : ∀ j ∈ N, ∃ u ∈ N, g u = j := by
  intro j hj
  apply Classical.byContradiction
  intro hno
  have hnd : (N.map g).Nodup := by
    refine List.pairwise_map.mpr ?_
    refine List.Pairwise.imp_of_mem ?_ nd
    intro a b ha hb hab q
    exact hab (hi a ha b hb q)
  have := nodup_len (N.map g) (N.erase j) hnd (fun x hx => by
    obtain ⟨u, hu, rfl⟩ := List.mem_map.mp hx
    exact (List.mem_erase_of_ne (fun q => hno ⟨u, hu, q⟩)).mpr (hm u hu))
  rw [List.length_map, List.length_erase_of_mem hj] at this
  have := List.length_pos_of_mem hj
  omega
section
variable {ps : List Pl} {L T : Pl → List Pl}
theorem Tab.mem (G : LGood ps L) (B : Tab ps L T) {i j : Pl} (h : j ∈ T i) : i ∈ ps ∧ j ∈ ps ∧ j ≠ i :=
  have h' := (B.sub i).subset h
  ⟨G.own i j h', G.mem i j h', fun q => G.ne i (by rw [q] at h'; exact h')⟩
theorem Tab.nd (G : LGood ps L) (B : Tab ps L T) (i : Pl) : (T i).Nodup := (B.sub i).nodup (G.nd i)
theorem last_mem' {l : List Pl} {g : Pl} (h : l.getLast? = some g) : g ∈ l := List.mem_of_getLast? h
theorem Tab.lf (G : LGood ps L) (hnd : ps.Nodup) (B : Tab ps L T) {i j : Pl} (h : (T j).getLast? = some i) : (T i).head? = some j := by
  let g : Pl → Pl := fun x => (T x).headD 0
  let N := ps.filter fun x => !(T x).isEmpty
  have hN : ∀ {x}, x ∈ N ↔ x ∈ ps ∧ T x ≠ [] := by intro x; simp [N]
  have hg : ∀ {x}, x ∈ N → (T x).head? = some (g x) := by
    intro x hx
    have := (hN.mp hx).2
    show _ = some ((T x).headD 0)
    cases e : T x with
    | nil => exact absurd e this
    | cons a r => rfl
  have hgN : ∀ x ∈ N, g x ∈ N := fun x hx => by
    have h1 := head_mem' (hg hx)
    have h2 := B.sym _ _ h1
    exact hN.mpr ⟨(B.mem G h1).2.1, fun q => by rw [q] at h2; cases h2⟩
  have hji : i ∈ T j := last_mem' h
  have hjN : j ∈ N := hN.mpr ⟨(B.mem G hji).1, fun q => by rw [q] at hji; cases hji⟩
  obtain ⟨u, hu, e⟩ := inj_surj (hnd.filter _) hgN (fun a ha b hb q => by
    have h1 := B.fl _ _ (hg ha)
    have h2 := B.fl _ _ (hg hb)
    rw [q, h2] at h1
    exact (Option.some.inj h1).symm) j hjN
  have h1 := hg hu
  rw [e] at h1
  have h2 := B.fl _ _ h1
  rw [h] at h2
  cases h2; exact h1
theorem Tab.two (G : LGood ps L) (hnd : ps.Nodup) (B : Tab ps L T) {p x s w : Pl} {r : List Pl} (h : T p = x :: s :: r) (hw : (T s).getLast? = some w) : ∃ y t r', T w = y :: t :: r' := by
  have hh := B.lf G hnd hw
  have hsp : s ∈ T p := by rw [h]; simp
  have hps := B.sym _ _ hsp
  have hndp := B.nd G p
  have hwp : w ≠ p := by
    intro q; subst q
    rw [h] at hh hndp
    simp at hh hndp
    exact hndp.1.1 hh
  match e : T w, hh with
  | [y], hh =>
    simp at hh
    have h1 := B.lf G hnd (i := y) (j := w) (by rw [e]; rfl)
    rw [hh] at h1
    have hnds := B.nd G s
    match e2 : T s, h1 with
    | [z], h1 =>
      rw [e2] at hps hw
      simp at hps hw
      exact absurd (hw.symm.trans hps.symm) hwp
    | z :: z' :: r2, h1 =>
      simp at h1
      rw [e2] at hw hnds
      subst h1
      have : z ∈ z' :: r2 := last_mem' (by simpa [List.getLast?_cons_cons] using hw)
      rw [List.nodup_cons] at hnds
      exact absurd this hnds.1
  | y :: t :: r', hh => exact ⟨y, t, r', rfl⟩
structure LInv (T : Pl → List Pl) (ls ss : List Pl) (p : Pl) : Prop where
  len : ls.length = ss.length + 1
  lst : ls.getD ss.length 0 = p
  sec : ∀ k, k < ss.length → ∃ x r, T (ls.getD k 0) = x :: ss.getD k 0 :: r
  las : ∀ k, k < ss.length → (T (ss.getD k 0)).getLast? = some (ls.getD (k + 1) 0)
theorem LInv.step {ls ss : List Pl} {p x s w : Pl} {r : List Pl} (I : LInv T ls ss p) (h : T p = x :: s :: r) (hw : (T s).getLast? = some w) : LInv T (ls ++ [w]) (ss ++ [s]) w := by
  have hl := I.len
  have g1 : ∀ k, k < ls.length → (ls ++ [w]).getD k 0 = ls.getD k 0 := fun k hk => by simp [List.getD_eq_getElem?_getD, List.getElem?_append_left hk]
  have g2 : ∀ k, k < ss.length → (ss ++ [s]).getD k 0 = ss.getD k 0 := fun k hk => by simp [List.getD_eq_getElem?_getD, List.getElem?_append_left hk]
  have g3 : (ls ++ [w]).getD (ss.length + 1) 0 = w := by simp [List.getD_eq_getElem?_getD, ← hl]
  have g4 : (ss ++ [s]).getD ss.length 0 = s := by simp [List.getD_eq_getElem?_getD]
  refine ⟨by simp [hl], by simpa using g3, fun k hk => ?_, fun k hk => ?_⟩
  · rw [g1 k (by simp at hk; omega)]
    by_cases e : k = ss.length
    · subst e; rw [I.lst, g4]; exact ⟨x, r, h⟩
    · rw [g2 k (by simp at hk; omega)]; exact I.sec k (by simp at hk; omega)
  · by_cases e : k = ss.length
    · subst e; rw [g4, g3]; exact hw
    · rw [g2 k (by simp at hk; omega), g1 (k + 1) (by simp at hk; omega)]; exact I.las k (by simp at hk; omega)
theorem loc_exists (G : LGood ps L) (hnd : ps.Nodup) (hps : ps.length ≤ 6) (B : Tab ps L T) : ∀ n ls ss p, ls.length + n = 7 → ls.Nodup → (∀ x ∈ ls, x ∈ ps) → LInv T ls ss p → (∃ x s r, T p = x :: s :: r) →
    ∃ ls0 ss' w, LocRun ps T ls ss p (ls0 ++ [w]) ss' w ∧ LInv T (ls0 ++ [w]) ss' w ∧ ls0.Nodup ∧ w ∈ ls0 ∧ (∀ x ∈ ls0, x ∈ ps) := by
  intro n
  induction n with
  | zero =>
    intro ls ss p hn nd hm I hT
    have := nodup_len ls ps nd hm
    omega
  | succ n ih =>
    intro ls ss p hn nd hm I ⟨x, s, r, hT⟩
    have hsp : s ∈ T p := by rw [hT]; simp
    obtain ⟨hp, hs, _⟩ := B.mem G hsp
    have hps2 := B.sym _ _ hsp
    obtain ⟨w, hw⟩ : ∃ w, (T s).getLast? = some w := by
      cases e : (T s).getLast? with
      | none => rw [List.getLast?_eq_none_iff] at e; rw [e] at hps2; cases hps2
      | some w => exact ⟨w, rfl⟩
    have I' := I.step hT hw
    have hlen := I.len
    by_cases hwl : w ∈ ls
    · refine ⟨ls, ss ++ [s], w, .stop hp hs hT hw (by omega) (by omega) ?_, I', nd, hwl, hm⟩
      rw [List.count_append]
      have := List.count_pos_iff.mpr hwl
      simp; omega
    · have hws : w ∈ ps := (B.mem G (last_mem' hw)).2.1
      obtain ⟨ls0, ss', w', h1, h2⟩ := ih (ls ++ [w]) (ss ++ [s]) w (by simp; omega) (List.nodup_append.mpr ⟨nd, by simp, fun a ha b hb q => by rw [List.mem_singleton] at hb; subst hb; exact hwl (q ▸ ha)⟩) (fun x hx => by
        rcases List.mem_append.mp hx with h | h
        · exact hm x h
        · rw [List.mem_singleton] at h; rw [h]; exact hws) I' (B.two G hnd hT hw)
      refine ⟨ls0, ss', w', .step hp hs hT hw (by omega) (by omega) ?_ h1, h2⟩
      rw [List.count_append, List.count_eq_zero_of_not_mem hwl]
      simp
end
end RM
end
noncomputable section
namespace RM
structure Rot (T : Pl → List Pl) (cyc : List (Pl × Pl)) : Prop where
  ne : cyc ≠ []
  nd : (cyc.map (·.1)).Nodup
  top : ∀ i, i < cyc.length → ∃ r, T (cyc.getD i (0, 0)).1 = (cyc.getD i (0, 0)).2 :: (cyc.getD ((i + 1) % cyc.length) (0, 0)).2 :: r
  last : ∀ p ∈ cyc, (T p.2).getLast? = some p.1
section
variable {ps : List Pl} {L T : Pl → List Pl}
theorem rot_of (G : LGood ps L) (hnd : ps.Nodup) (B : Tab ps L T) {ls0 ss : List Pl} {w : Pl} (I : LInv T (ls0 ++ [w]) ss w) (nd : ls0.Nodup) (hw : w ∈ ls0) :
    Rot T (((ls0 ++ [w]).drop ((ls0 ++ [w]).idxOf w + 1)).zip (ss.drop ((ls0 ++ [w]).idxOf w))) := by
  obtain ⟨A, D, rfl⟩ := List.append_of_mem hw
  have hwA : w ∉ A := fun h => (List.nodup_append.mp nd).2.2 w h w (by simp) rfl
  have hwD : w ∉ D := (List.nodup_cons.mp (List.nodup_append.mp nd).2.1).1
  have hndD : D.Nodup := (List.nodup_cons.mp (List.nodup_append.mp nd).2.1).2
  have ha : (A ++ w :: D ++ [w]).idxOf w = A.length := by
    have : A ++ w :: D ++ [w] = A ++ w :: (D ++ [w]) := by simp
    rw [this]; exact idxOf_split hwA
  have hlen := I.len
  simp at hlen
  rw [ha]
  generalize hls : A ++ w :: D ++ [w] = ls at *
  have hll : ls.length = ss.length + 1 := I.len
  have hdrop : ls.drop (A.length + 1) = D ++ [w] := by
    rw [← hls]
    simp [List.drop_append]
  have hsl : (ss.drop A.length).length = (ls.drop (A.length + 1)).length := by simp; omega
  have hcl : ((ls.drop (A.length + 1)).zip (ss.drop A.length)).length = ss.length - A.length := by simp; omega
  have hget : ∀ k, k < ss.length - A.length → ((ls.drop (A.length + 1)).zip (ss.drop A.length)).getD k (0, 0) = (ls.getD (A.length + 1 + k) 0, ss.getD (A.length + k) 0) := by
    intro k hk
    have h1 : A.length + 1 + k < ls.length := by omega
    have h2 : A.length + k < ss.length := by omega
    simp [List.getD_eq_getElem?_getD, List.getElem?_zip_eq_some, h1, h2, List.zip, List.getElem?_zipWith]
  have hwa : ls.getD A.length 0 = w := by rw [← hls]; simp [List.getD_eq_getElem?_getD]
  have hpos : 0 < ss.length - A.length := by omega
  generalize hcyc : (ls.drop (A.length + 1)).zip (ss.drop A.length) = cyc at *
  have hlast : ∀ k, k < ss.length - A.length → (T (cyc.getD k (0, 0)).2).getLast? = some (cyc.getD k (0, 0)).1 := by
    intro k hk
    rw [hget k hk]
    have := I.las (A.length + k) (by omega)
    rw [this]
    congr 2; omega
  refine ⟨fun e => ?_, ?_, fun k hk => ?_, fun p hp => ?_⟩
  · rw [e] at hcl; simp at hcl; omega
  · rw [← hcyc, List.map_fst_zip (by omega), hdrop]
    exact List.nodup_append.mpr ⟨hndD, by simp, fun a h1 b h2 q => by rw [List.mem_singleton] at h2; subst h2; exact hwD (q ▸ h1)⟩
  · rw [hcl] at hk ⊢
    have hh := B.lf G hnd (hlast k hk)
    by_cases e : k + 1 = ss.length - A.length
    · rw [e, Nat.mod_self, hget 0 hpos]
      rw [hget k hk] at hh ⊢
      have e1 : ls.getD (A.length + 1 + k) 0 = w := by
        have : A.length + 1 + k = ss.length := by omega
        rw [this]; exact I.lst
      obtain ⟨x, r, hx⟩ := I.sec A.length (by omega)
      rw [hwa] at hx
      dsimp only at hh ⊢
      rw [e1] at hh ⊢
      rw [hx] at hh ⊢
      simp at hh
      refine ⟨r, ?_⟩
      simp [hh]
    · have hk1 : k + 1 < ss.length - A.length := by omega
      rw [Nat.mod_eq_of_lt hk1, hget (k + 1) hk1]
      rw [hget k hk] at hh ⊢
      obtain ⟨x, r, hx⟩ := I.sec (A.length + 1 + k) (by omega)
      dsimp only at hh ⊢
      rw [hx] at hh ⊢
      simp at hh
      refine ⟨r, ?_⟩
      have : A.length + (k + 1) = A.length + 1 + k := by omega
      rw [this]
      simp [hh]
  · obtain ⟨k, hk, e⟩ := List.mem_iff_getElem.mp hp
    have := hlast k (by omega)
    have e2 : cyc.getD k (0, 0) = p := by rw [← e]; simp [List.getD_eq_getElem?_getD, hk]
    rw [e2] at this; exact this
end
end RM
end
noncomputable section
namespace RM
theorem srt2_eq : ∀ a b c d : Pl, srt2 a b = srt2 c d ↔ (a = c ∧ b = d) ∨ (a = d ∧ b = c) := by decide +kernel
theorem srt_in (acc : List (Pl × Pl)) (r s : Pl) : srt2 r s ∈ acc.map (fun q => srt2 q.1 q.2) ↔ (r, s) ∈ acc ∨ (s, r) ∈ acc := by
  constructor
  · intro h
    obtain ⟨q, hq, e⟩ := List.mem_map.mp h
    rcases (srt2_eq _ _ _ _).mp e with ⟨h1, h2⟩ | ⟨h1, h2⟩
    · left; rw [← h1, ← h2]; exact hq
    · right; rw [← h1, ← h2]; exact hq
  · rintro (h | h)
    · exact List.mem_map.mpr ⟨_, h, rfl⟩
    · exact List.mem_map.mpr ⟨_, h, (srt2_eq _ _ _ _).mpr (.inr ⟨rfl, rfl⟩)⟩
theorem addP_srt (r : Pl) (acc : List (Pl × Pl)) (s : Pl) : (addP r acc s).map (fun q => srt2 q.1 q.2) = addD r (acc.map fun q => srt2 q.1 q.2) s := by
  unfold addP addD
  by_cases h : srt2 r s ∈ acc.map (fun q => srt2 q.1 q.2)
  · rw [if_pos h, if_neg]
    rw [srt_in] at h
    rintro ⟨h1, h2⟩
    exact h.elim h1 h2
  · rw [if_neg h, if_pos]
    · simp
    · rw [srt_in] at h
      exact ⟨fun q => h (.inl q), fun q => h (.inr q)⟩
theorem foldl_srt (r : Pl) : ∀ (l : List Pl) (acc : List (Pl × Pl)), (l.foldl (addP r) acc).map (fun q => srt2 q.1 q.2) = l.foldl (addD r) (acc.map fun q => srt2 q.1 q.2)
  | [], acc => rfl
  | s :: l, acc => by
    rw [List.foldl_cons, List.foldl_cons, foldl_srt r l, addP_srt]
theorem pairs_due (T : Pl → List Pl) (cyc : List (Pl × Pl)) : ∀ i, (pairsUp T cyc i).map (fun q => srt2 q.1 q.2) = dueUp T cyc i
  | 0 => rfl
  | i + 1 => by
    rw [pairsUp, foldl_srt, pairs_due T cyc i]; rfl
theorem addP_mem {r s : Pl} {acc : List (Pl × Pl)} {q : Pl × Pl} (h : q ∈ addP r acc s) : q ∈ acc ∨ q = (r, s) := by
  unfold addP at h
  split at h
  · rcases List.mem_append.mp h with h | h
    · exact .inl h
    · exact .inr (by simpa using h)
  · exact .inl h
theorem foldl_mem {r : Pl} : ∀ {l : List Pl} {acc : List (Pl × Pl)} {q : Pl × Pl}, q ∈ l.foldl (addP r) acc → q ∈ acc ∨ ∃ s ∈ l, q = (r, s)
  | [], acc, q, h => .inl h
  | s :: l, acc, q, h => by
    rw [List.foldl_cons] at h
    rcases foldl_mem h with h | ⟨t, ht, e⟩
    · rcases addP_mem h with h | h
      · exact .inl h
      · exact .inr ⟨s, by simp, h⟩
    · exact .inr ⟨t, by simp [ht], e⟩
theorem pairs_mem {T : Pl → List Pl} {cyc : List (Pl × Pl)} {q : Pl × Pl} : ∀ {n}, q ∈ pairsUp T cyc n → ∃ i < n, q.1 = (cyc.getD i (0, 0)).2 ∧ q.2 ∈ behind T cyc i
  | 0, h => by simp [pairsUp] at h
  | n + 1, h => by
    rcases foldl_mem h with h | ⟨s, hs, e⟩
    · obtain ⟨i, hi, e⟩ := pairs_mem h
      exact ⟨i, by omega, e⟩
    · exact ⟨n, by omega, by rw [e], by rw [e]; exact hs⟩
theorem addD_keep {r s : Pl} {acc : List (List Pl)} {d : List Pl} (h : d ∈ acc) : d ∈ addD r acc s := by
  unfold addD; split
  · exact h
  · exact List.mem_append_left _ h
theorem addD_new {r s : Pl} {acc : List (List Pl)} : srt2 r s ∈ addD r acc s := by
  unfold addD; split
  · rename_i h; exact h
  · simp
theorem foldl_keep {r : Pl} : ∀ {l : List Pl} {acc : List (List Pl)} {d : List Pl}, d ∈ acc → d ∈ l.foldl (addD r) acc
  | [], acc, d, h => h
  | s :: l, acc, d, h => foldl_keep (l := l) (addD_keep h)
theorem foldl_new {r : Pl} : ∀ {l : List Pl} {acc : List (List Pl)} {s : Pl}, s ∈ l → srt2 r s ∈ l.foldl (addD r) acc
  | t :: l, acc, s, h => by
    rw [List.foldl_cons]
    by_cases e : s = t
    · subst e; exact foldl_keep addD_new
    · exact foldl_new (by simpa [e] using h)
theorem due_new {T : Pl → List Pl} {cyc : List (Pl × Pl)} {i : Nat} {s : Pl} (hs : s ∈ behind T cyc i) : ∀ {n}, i < n → srt2 (cyc.getD i (0, 0)).2 s ∈ dueUp T cyc n
  | n + 1, h => by
    by_cases e : i = n
    · subst e; exact foldl_new hs
    · exact foldl_keep (due_new hs (by omega))
theorem due_iff {T : Pl → List Pl} {cyc : List (Pl × Pl)} {x y : Pl} {n : Nat} : srt2 x y ∈ dueUp T cyc n ↔ ∃ i < n, (x = (cyc.getD i (0, 0)).2 ∧ y ∈ behind T cyc i) ∨ (y = (cyc.getD i (0, 0)).2 ∧ x ∈ behind T cyc i) := by
  constructor
  · intro h
    rw [← pairs_due, srt_in] at h
    rcases h with h | h
    · obtain ⟨i, hi, e1, e2⟩ := pairs_mem h
      exact ⟨i, hi, .inl ⟨e1, e2⟩⟩
    · obtain ⟨i, hi, e1, e2⟩ := pairs_mem h
      exact ⟨i, hi, .inr ⟨e1, e2⟩⟩
  · rintro ⟨i, hi, ⟨rfl, h⟩ | ⟨rfl, h⟩⟩
    · exact due_new h hi
    · have : srt2 x (cyc.getD i (0, 0)).2 = srt2 (cyc.getD i (0, 0)).2 x := (srt2_eq _ _ _ _).mpr (.inr ⟨rfl, rfl⟩)
      rw [this]; exact due_new h hi
theorem pairs_len {T : Pl → List Pl} {cyc : List (Pl × Pl)} (h : ∀ i, (T i).length ≤ 6) : ∀ n, (pairsUp T cyc n).length ≤ n * 6
  | 0 => by simp [pairsUp]
  | n + 1 => by
    have h1 := pairs_len (T := T) (cyc := cyc) h n
    have h2 := foldl_addP_len (cyc.getD n (0, 0)).2 (behind T cyc n) (pairsUp T cyc n)
    have h3 : (behind T cyc n).length ≤ 6 := by
      have := h (cyc.getD n (0, 0)).2
      unfold behind; rw [List.length_drop]; omega
    rw [pairsUp]
    omega
end RM
end
noncomputable section
namespace RM
theorem prev_ix {cyc : List (Pl × Pl)} {i : Nat} (h : i < cyc.length) : ∃ j < cyc.length, (j + 1) % cyc.length = i ∧ prevL cyc i = (cyc.getD j (0, 0)).1 := by
  unfold prevL
  by_cases e : i = 0
  · subst e
    refine ⟨cyc.length - 1, by omega, ?_, ?_⟩
    · rw [show cyc.length - 1 + 1 = cyc.length by omega, Nat.mod_self]
    · have : (((0 : Nat) : Int) - 1).fmod (cyc.length : Int) = ((cyc.length - 1 : Nat) : Int) := by
        have h1 : (((0 : Nat) : Int) - 1) = ((cyc.length - 1 : Nat) : Int) - (cyc.length : Int) := by omega
        rw [h1, Int.sub_fmod_right]
        exact Int.fmod_eq_of_lt (by omega) (by omega)
      rw [this]; simp
  · refine ⟨i - 1, by omega, ?_, ?_⟩
    · rw [show i - 1 + 1 = i by omega, Nat.mod_eq_of_lt h]
    · have : ((i : Int) - 1).fmod (cyc.length : Int) = ((i - 1 : Nat) : Int) := by
        rw [show (i : Int) - 1 = ((i - 1 : Nat) : Int) by omega]
        exact Int.fmod_eq_of_lt (by omega) (by omega)
      rw [this]; simp
section
variable {ps : List Pl} {L T : Pl → List Pl} {cyc : List (Pl × Pl)}
theorem getD_mem {i : Nat} (h : i < cyc.length) : cyc.getD i (0, 0) ∈ cyc := by
  rw [List.getD_eq_getElem?_getD, List.getElem?_eq_getElem h]; exact List.getElem_mem h
theorem mem_getD {p : Pl × Pl} (h : p ∈ cyc) : ∃ i < cyc.length, cyc.getD i (0, 0) = p := by
  obtain ⟨k, hk, e⟩ := List.mem_iff_getElem.mp h
  exact ⟨k, hk, by rw [← e]; simp [List.getD_eq_getElem?_getD, hk]⟩
theorem Rot.mem (G : LGood ps L) (B : Tab ps L T) (R : Rot T cyc) {p : Pl × Pl} (h : p ∈ cyc) : p.1 ∈ ps ∧ p.2 ∈ ps := by
  have := B.mem G (last_mem' (R.last p h))
  exact ⟨this.2.1, this.1⟩
theorem Rot.len (G : LGood ps L) (hps : ps.length ≤ 6) (B : Tab ps L T) (R : Rot T cyc) : cyc.length ≤ 6 := by
  have := nodup_len _ ps R.nd (fun x hx => by
    obtain ⟨q, hq, rfl⟩ := List.mem_map.mp hx
    exact (R.mem G B hq).1)
  rw [List.length_map] at this; omega
theorem Tab.len (G : LGood ps L) (hps : ps.length ≤ 6) (B : Tab ps L T) (i : Pl) : (T i).length ≤ 6 := by
  have := nodup_len _ ps (B.nd G i) (fun x hx => (B.mem G hx).2.1)
  omega
theorem Rot.prev (B : Tab ps L T) (R : Rot T cyc) {i : Nat} (h : i < cyc.length) : prevL cyc i ∈ T (cyc.getD i (0, 0)).2 := by
  obtain ⟨j, hj, e1, e2⟩ := prev_ix h
  obtain ⟨r, hr⟩ := R.top j hj
  rw [e1] at hr
  rw [e2]
  exact B.sym _ _ (by rw [hr]; simp)
theorem behind_sub {i : Nat} {y : Pl} (h : y ∈ behind T cyc i) : y ∈ T (cyc.getD i (0, 0)).2 := List.mem_of_mem_drop h
theorem Rot.data (G : LGood ps L) (hps : ps.length ≤ 6) (B : Tab ps L T) (R : Rot T cyc) {S : List (List (Pl × Pl))} (K : Taken ps T cyc (dueUp T cyc cyc.length) S) : CycData ps T S cyc := by
  have hl := R.len G hps B
  have ht := B.len G hps
  have hm : ∀ p ∈ cyc, p.1 ∈ ps ∧ p.2 ∈ ps := fun p h => R.mem G B h
  refine ⟨⟨hm, fun i h => R.prev B h, by omega, fun m => by have := ht m; omega⟩, ⟨R.ne, hm, R.nd, fun i h => ?_, R.last, by omega⟩, ⟨hm, fun i h => R.prev B h, by omega, fun m => by have := ht m; omega, fun m h => (B.mem G h).2.2 rfl⟩, pairs_due T cyc _, fun q h => ?_, fun q h => ?_, ?_, K⟩
  · obtain ⟨r, hr⟩ := R.top i h
    rw [hr]; rfl
  · obtain ⟨i, hi, e1, e2⟩ := pairs_mem h
    have := (B.mem G (behind_sub e2)).2.2
    rw [e1]; exact Ne.symm this
  · obtain ⟨i, hi, e1, e2⟩ := pairs_mem h
    have := B.mem G (behind_sub e2)
    rw [e1]; exact ⟨this.1, this.2.1⟩
  · have := pairs_len (cyc := cyc) ht cyc.length
    omega
end
end RM
end
noncomputable section
namespace RM
theorem mem_take_idx : ∀ (l : List Pl) (n : Nat) (j : Pl), j ∈ l.take n ↔ j ∈ l ∧ l.idxOf j < n
  | [], n, j => by simp
  | a :: l, 0, j => by simp
  | a :: l, n + 1, j => by
    by_cases e : a = j
    · subst e; simp
    · have h1 : (a == j) = false := by simpa using e
      have := mem_take_idx l n j
      simp [List.idxOf_cons, h1, this, Ne.symm e]
theorem stb_iff {ps : List Pl} {L : Pl → List Pl} {M : Pl → Pl} : stb ps L M ↔ ∀ i ∈ ps, ∀ j ∈ L i, bef L i j (M i) → ¬ bef L j i (M j) := by
  unfold stb stbAt stbOne bef
  constructor
  · intro h i hi j hj hb
    exact h i hi j ((mem_take_idx _ _ _).mpr ⟨hj, hb⟩)
  · intro h i hi j hj
    obtain ⟨h1, h2⟩ := (mem_take_idx _ _ _).mp hj
    exact h i hi j h1 h2
theorem within_iff {ps : List Pl} {P : List (Pl × Pl)} {M : Pl → Pl} {T : Pl → List Pl} (K : MateOk ps P M) : within P M T = true ↔ ∀ i ∈ ps, M i ∈ T i := by
  unfold within
  rw [List.all_eq_true]
  constructor
  · intro h i hi
    obtain ⟨q, hq, e⟩ := List.mem_map.mp (K.cov i hi)
    have := h q hq
    rw [e] at this
    simpa using this
  · intro h q hq
    simpa using h q.1 (K.keys q hq)
end RM
end
noncomputable section
namespace RM
theorem bef_irr {L : Pl → List Pl} {i a : Pl} : ¬ bef L i a a := by unfold bef; omega
theorem bef_asym {L : Pl → List Pl} {i a b : Pl} (h : bef L i a b) : ¬ bef L i b a := by unfold bef at *; omega
theorem bef_trans {L : Pl → List Pl} {i a b c : Pl} (h : bef L i a b) (h' : bef L i b c) : bef L i a c := by unfold bef at *; omega
theorem bef_after {L : Pl → List Pl} {i : Pl} {l : List Pl} (hs : l.Sublist (L i)) (nd : (L i).Nodup) {A B : List Pl} {a : Pl} (e : l = A ++ a :: B) : ∀ x ∈ B, bef L i a x := by
  intro x hx
  obtain ⟨C, D, rfl⟩ := List.append_of_mem hx
  exact bef_of_split hs nd (A := A ++ a :: C) (B := D) (b := x) (by rw [e]; simp) a (by simp)
theorem bef_last {L : Pl → List Pl} {i : Pl} {l : List Pl} (hs : l.Sublist (L i)) (nd : (L i).Nodup) {b : Pl} (hb : l.getLast? = some b) {x : Pl} (hx : x ∈ l) (hne : x ≠ b) : bef L i x b := by
  obtain ⟨l', e⟩ := List.getLast?_eq_some_iff.mp hb
  refine bef_of_split hs nd (A := l') (B := []) (b := b) e x ?_
  rw [e] at hx
  simpa [hne] using hx
theorem drop_iff {L : Pl → List Pl} {i : Pl} {l : List Pl} (hs : l.Sublist (L i)) (nd : (L i).Nodup) {p : Pl} (hp : p ∈ l) (y : Pl) : y ∈ l.drop (l.idxOf p + 1) ↔ y ∈ l ∧ bef L i p y := by
  obtain ⟨A, D, e1, e2, e3, e4⟩ := sucs_split hp (hs.nodup nd)
  rw [e2]
  constructor
  · intro h
    exact ⟨by rw [e1]; simp [h], bef_after hs nd e1 y h⟩
  · rintro ⟨h, hb⟩
    rw [e1] at h
    rcases List.mem_append.mp h with h | h
    · exact absurd (bef_of_split hs nd e1 y h) (bef_asym hb)
    · rcases List.mem_cons.mp h with h | h
      · subst h; exact absurd hb bef_irr
      · exact h
theorem cyc_ind {n : Nat} {Q : Nat → Prop} (h : ∀ i, i < n → Q ((i + 1) % n) → Q i) {j : Nat} (hj : j < n) (hQ : Q j) : ∀ i, i < n → Q i := by
  have down : ∀ d m, m + d < n → Q (m + d) → Q m := by
    intro d
    induction d with
    | zero => intro m _ q; exact q
    | succ d ih =>
      intro m hm q
      refine ih m (by omega) (h _ (by omega) ?_)
      rw [Nat.mod_eq_of_lt (by omega)]
      exact q
  have h0 : Q 0 := down j 0 (by omega) (by simpa using hQ)
  have hn : Q (n - 1) := h _ (by omega) (by rw [show n - 1 + 1 = n by omega, Nat.mod_self]; exact h0)
  intro i hi
  exact down (n - 1 - i) i (by omega) (by rw [show i + (n - 1 - i) = n - 1 by omega]; exact hn)
theorem mod_inj {n i j : Nat} (hi : i < n) (hj : j < n) (h : (i + 1) % n = (j + 1) % n) : i = j := by
  rcases Nat.lt_or_ge (i + 1) n with h1 | h1 <;> rcases Nat.lt_or_ge (j + 1) n with h2 | h2
  · rw [Nat.mod_eq_of_lt h1, Nat.mod_eq_of_lt h2] at h; omega
  · rw [Nat.mod_eq_of_lt h1, show j + 1 = n by omega, Nat.mod_self] at h; omega
  · rw [Nat.mod_eq_of_lt h2, show i + 1 = n by omega, Nat.mod_self] at h; omega
  · omega
section
variable {ps : List Pl} {L T : Pl → List Pl} {cyc : List (Pl × Pl)}
def lo (cyc : List (Pl × Pl)) (i : Nat) : Pl := (cyc.getD i (0, 0)).1
def ro (cyc : List (Pl × Pl)) (i : Nat) : Pl := (cyc.getD i (0, 0)).2
def nx (cyc : List (Pl × Pl)) (i : Nat) : Nat := (i + 1) % cyc.length
theorem nx_lt {i : Nat} (h : i < cyc.length) : nx cyc i < cyc.length := Nat.mod_lt _ (by omega)
theorem Rot.top' (R : Rot T cyc) {i : Nat} (h : i < cyc.length) : ∃ r, T (lo cyc i) = ro cyc i :: ro cyc (nx cyc i) :: r := R.top i h
theorem Rot.last' (R : Rot T cyc) {i : Nat} (h : i < cyc.length) : (T (ro cyc i)).getLast? = some (lo cyc i) := R.last _ (getD_mem h)
theorem Rot.linj (R : Rot T cyc) {i j : Nat} (hi : i < cyc.length) (hj : j < cyc.length) (h : lo cyc i = lo cyc j) : i = j := by
  have := R.nd
  rw [List.nodup_iff_pairwise_ne, List.pairwise_iff_getElem] at this
  have e : ∀ k (hk : k < cyc.length), lo cyc k = (cyc.map (·.1))[k]'(by simpa using hk) := by
    intro k hk; simp [lo, List.getD_eq_getElem?_getD, hk]
  rw [e i hi, e j hj] at h
  rcases Nat.lt_trichotomy i j with h1 | h1 | h1
  · exact absurd h (this i j (by simpa using hi) (by simpa using hj) h1)
  · exact h1
  · exact absurd h.symm (this j i (by simpa using hj) (by simpa using hi) h1)
theorem Rot.rinj (R : Rot T cyc) {i j : Nat} (hi : i < cyc.length) (hj : j < cyc.length) (h : ro cyc i = ro cyc j) : i = j := by
  have h1 := R.last' hi
  have h2 := R.last' hj
  rw [h, h2] at h1
  exact R.linj hi hj (Option.some.inj h1.symm)
theorem Rot.rne (G : LGood ps L) (B : Tab ps L T) (R : Rot T cyc) {i : Nat} (h : i < cyc.length) : ro cyc i ≠ ro cyc (nx cyc i) := by
  obtain ⟨r, hr⟩ := R.top' h
  have := B.nd G (lo cyc i)
  rw [hr] at this
  simp at this
  exact this.1.1
theorem Rot.lne (G : LGood ps L) (B : Tab ps L T) (R : Rot T cyc) {i : Nat} (h : i < cyc.length) : lo cyc i ≠ lo cyc (nx cyc i) := by
  intro q
  have := R.linj h (nx_lt h) q
  exact R.rne G B h (by rw [← this])
theorem prev_of (R : Rot T cyc) {i : Nat} (h : i < cyc.length) : prevL cyc (nx cyc i) = lo cyc i := by
  obtain ⟨j, hj, e1, e2⟩ := prev_ix (nx_lt h)
  have := mod_inj hj h e1
  rw [e2, this]; rfl
theorem nx_surj {i : Nat} (h : i < cyc.length) : ∃ j < cyc.length, nx cyc j = i := by
  obtain ⟨j, hj, e1, e2⟩ := prev_ix h
  exact ⟨j, hj, e1⟩
theorem Rot.lr' (R : Rot T cyc) {i : Nat} (h : i < cyc.length) : ro cyc (nx cyc i) ∈ T (lo cyc i) := by obtain ⟨r, hr⟩ := R.top' h; rw [hr]; simp
theorem behind_iff (G : LGood ps L) (B : Tab ps L T) (R : Rot T cyc) {i : Nat} (h : i < cyc.length) {y : Pl} : y ∈ behind T cyc (nx cyc i) ↔ y ∈ T (ro cyc (nx cyc i)) ∧ bef L (ro cyc (nx cyc i)) (lo cyc i) y := by
  unfold behind
  rw [prev_of R h]
  exact drop_iff (B.sub _) (G.nd _) (B.sym _ _ (R.lr' h)) y
theorem due_iff' (G : LGood ps L) (B : Tab ps L T) (R : Rot T cyc) {x y : Pl} : srt2 x y ∈ dueUp T cyc cyc.length ↔ ∃ i < cyc.length, (x = ro cyc (nx cyc i) ∧ y ∈ T x ∧ bef L x (lo cyc i) y) ∨ (y = ro cyc (nx cyc i) ∧ x ∈ T y ∧ bef L y (lo cyc i) x) := by
  rw [due_iff]
  constructor
  · rintro ⟨i, hi, h⟩
    obtain ⟨j, hj, rfl⟩ := nx_surj hi
    refine ⟨j, hj, ?_⟩
    rcases h with ⟨rfl, h⟩ | ⟨rfl, h⟩
    · exact .inl ⟨rfl, (behind_iff G B R hj).mp h⟩
    · exact .inr ⟨rfl, (behind_iff G B R hj).mp h⟩
  · rintro ⟨j, hj, h⟩
    refine ⟨nx cyc j, nx_lt hj, ?_⟩
    rcases h with ⟨rfl, h⟩ | ⟨rfl, h⟩
    · exact .inl ⟨rfl, (behind_iff G B R hj).mpr h⟩
    · exact .inr ⟨rfl, (behind_iff G B R hj).mpr h⟩
theorem due_symm {x y : Pl} : srt2 x y = srt2 y x := (srt2_eq _ _ _ _).mpr (.inr ⟨rfl, rfl⟩)
theorem Rot.back (G : LGood ps L) (hnd : ps.Nodup) (B : Tab ps L T) (R : Rot T cyc) (hne : ∀ i ∈ ps, lessT T (dueUp T cyc cyc.length) i ≠ []) :
    ∀ i ∈ ps, ∃ x, (lessT T (dueUp T cyc cyc.length) i).head? = some x ∧ x ∈ ps ∧ (lessT T (dueUp T cyc cyc.length) x).getLast? = some i := by
  intro i hi
  obtain ⟨j, hj⟩ : ∃ j, (T i).head? = some j := by
    cases e : T i with
    | nil => exact absurd (by unfold lessT; rw [e]; rfl) (hne i hi)
    | cons a r => exact ⟨a, rfl⟩
  have hji := head_mem' hj
  have hl := B.fl _ _ hj
  by_cases hd : srt2 i j ∈ dueUp T cyc cyc.length
  · have hk : ∃ k < cyc.length, i = lo cyc k ∧ j = ro cyc k := by
      obtain ⟨m, hm, ⟨e, h1, h2⟩ | ⟨e, h1, h2⟩⟩ := (due_iff' G B R).mp hd
      · exfalso
        have hp : lo cyc m ∈ T i := by rw [e]; exact B.sym _ _ (R.lr' hm)
        cases eT : T i with
        | nil => rw [eT] at hji; cases hji
        | cons a r =>
          rw [eT] at hj hp
          simp at hj
          subst hj
          rcases List.mem_cons.mp hp with q | q
          · rw [q] at h2; exact bef_irr h2
          · exact bef_asym h2 (bef_after (B.sub i) (G.nd i) (A := []) eT _ q)
      · refine ⟨nx cyc m, nx_lt hm, ?_, e⟩
        have := R.last' (nx_lt hm)
        rw [← e, hl] at this
        exact Option.some.inj this
    obtain ⟨k, hk, rfl, rfl⟩ := hk
    obtain ⟨r, hr⟩ := R.top' hk
    have hnd2 : srt2 (lo cyc k) (ro cyc (nx cyc k)) ∉ dueUp T cyc cyc.length := by
      intro hd2
      obtain ⟨m, hm, ⟨e, h1, h2⟩ | ⟨e, h1, h2⟩⟩ := (due_iff' G B R).mp hd2
      · have hp : lo cyc m ∈ T (lo cyc k) := by rw [e]; exact B.sym _ _ (R.lr' hm)
        have hq : lo cyc m = ro cyc k := by
          rw [hr] at hp
          rcases List.mem_cons.mp hp with q | q
          · exact q
          · rcases List.mem_cons.mp q with q | q
            · rw [q] at h2; exact absurd h2 bef_irr
            · exact absurd (bef_after (B.sub _) (G.nd _) (A := [ro cyc k]) hr _ q) (bef_asym h2)
        apply hne _ hi
        unfold lessT
        rw [List.filter_eq_nil_iff]
        intro y hy
        suffices h : srt2 (lo cyc k) y ∈ dueUp T cyc cyc.length by simpa using h
        by_cases ey : y = ro cyc k
        · rw [ey]; exact hd
        · refine (due_iff' G B R).mpr ⟨m, hm, .inl ⟨e, hy, ?_⟩⟩
          rw [hq]
          rw [hr] at hy
          exact bef_after (B.sub _) (G.nd _) (A := []) hr _ (by simpa [ey] using hy)
      · have := R.rinj (nx_lt hk) (nx_lt hm) e
        have := mod_inj hk hm this
        subst this
        exact bef_irr h2
    refine ⟨ro cyc (nx cyc k), ?_, (R.mem G B (getD_mem (nx_lt hk))).2, ?_⟩
    · unfold lessT
      rw [hr, List.filter_cons, if_neg (by simpa using hd), List.filter_cons, if_pos (by simpa using hnd2)]
      rfl
    · have hm : lo cyc k ∈ T (ro cyc (nx cyc k)) := B.sym _ _ (R.lr' hk)
      obtain ⟨A, D, eq⟩ := List.append_of_mem hm
      unfold lessT
      rw [eq, List.filter_append, List.filter_cons, if_pos (by rw [due_symm]; simpa using hnd2)]
      have : D.filter (fun y => !decide (srt2 (ro cyc (nx cyc k)) y ∈ dueUp T cyc cyc.length)) = [] := by
        rw [List.filter_eq_nil_iff]
        intro y hy
        suffices h : srt2 (ro cyc (nx cyc k)) y ∈ dueUp T cyc cyc.length by simpa using h
        exact (due_iff' G B R).mpr ⟨k, hk, .inl ⟨rfl, by rw [eq]; simp [hy], bef_after (B.sub _) (G.nd _) eq _ hy⟩⟩
      rw [this]
      simp
  · refine ⟨j, ?_, (B.mem G hji).2.1, ?_⟩
    · exact head_filter hj (by simpa using hd)
    · exact last_filter hl (by rw [due_symm]; simpa using hd)
end
end RM
end
noncomputable section
namespace RM
section
variable {ps : List Pl} {L T : Pl → List Pl} {cyc : List (Pl × Pl)} {M : Pl → Pl}
structure Sb (ps : List Pl) (L T : Pl → List Pl) (M : Pl → Pl) : Prop where
  inv : Inv ps M
  stb : ∀ i ∈ ps, ∀ j ∈ L i, bef L i j (M i) → ¬ bef L j i (M j)
  wi : ∀ i ∈ ps, M i ∈ T i
theorem Rot.lm (G : LGood ps L) (B : Tab ps L T) (R : Rot T cyc) {i : Nat} (h : i < cyc.length) : lo cyc i ∈ ps := (R.mem G B (getD_mem h)).1
theorem Rot.rm (G : LGood ps L) (B : Tab ps L T) (R : Rot T cyc) {i : Nat} (h : i < cyc.length) : ro cyc i ∈ ps := (R.mem G B (getD_mem h)).2
theorem Sb.back (G : LGood ps L) (B : Tab ps L T) (R : Rot T cyc) (S : Sb ps L T M) {i : Nat} (h : i < cyc.length) (hM : M (lo cyc (nx cyc i)) = ro cyc (nx cyc i)) : M (lo cyc i) = ro cyc i := by
  obtain ⟨r, hr⟩ := R.top' h
  have hl := R.lm G B h
  have hl' := R.lm G B (nx_lt h)
  have hr' := R.rm G B (nx_lt h)
  have hMr : M (ro cyc (nx cyc i)) = lo cyc (nx cyc i) := by rw [← hM]; exact S.inv.inv _ hl'
  have hw := S.wi _ hl
  rw [hr] at hw
  rcases List.mem_cons.mp hw with q | q
  · exact q
  · exfalso
    rcases List.mem_cons.mp q with q | q
    · have : M (ro cyc (nx cyc i)) = lo cyc i := by rw [← q]; exact S.inv.inv _ hl
      exact R.lne G B h (this.symm.trans hMr)
    · refine S.stb _ hl _ ((B.sub _).subset (R.lr' h)) (bef_after (B.sub _) (G.nd _) (A := [ro cyc i]) hr _ q) ?_
      rw [hMr]
      exact bef_last (B.sub _) (G.nd _) (R.last' (nx_lt h)) (B.sym _ _ (R.lr' h)) (R.lne G B h)
theorem Sb.all (G : LGood ps L) (B : Tab ps L T) (R : Rot T cyc) (S : Sb ps L T M) {j : Nat} (hj : j < cyc.length) (hM : M (lo cyc j) = ro cyc j) : ∀ i, i < cyc.length → M (lo cyc i) = ro cyc i :=
  cyc_ind (Q := fun i => M (lo cyc i) = ro cyc i) (fun i hi q => S.back G B R hi q) hj hM
theorem have_zero : haveN cyc M = 0 ↔ ∀ i < cyc.length, M (lo cyc i) ≠ ro cyc i := by
  unfold haveN
  rw [List.length_eq_zero_iff, List.filter_eq_nil_iff]
  constructor
  · intro h i hi
    simpa [lo, ro] using h _ (getD_mem hi)
  · intro h p hp
    obtain ⟨i, hi, rfl⟩ := mem_getD hp
    simpa [lo, ro] using h i hi
theorem have_all (h : ∀ i < cyc.length, M (lo cyc i) = ro cyc i) : haveN cyc M = cyc.length := by
  unfold haveN
  rw [List.filter_eq_self.mpr]
  intro p hp
  obtain ⟨i, hi, rfl⟩ := mem_getD hp
  simpa [lo, ro] using h i hi
theorem Sb.have (G : LGood ps L) (B : Tab ps L T) (R : Rot T cyc) (S : Sb ps L T M) : haveN cyc M = 0 ∨ (haveN cyc M = cyc.length ∧ ∀ i, i < cyc.length → M (lo cyc i) = ro cyc i) := by
  by_cases h : ∃ j < cyc.length, M (lo cyc j) = ro cyc j
  · obtain ⟨j, hj, e⟩ := h
    exact .inr ⟨have_all (S.all G B R hj e), S.all G B R hj e⟩
  · exact .inl (have_zero.mpr fun i hi q => h ⟨i, hi, q⟩)
theorem Sb.less (G : LGood ps L) (B : Tab ps L T) (R : Rot T cyc) (S : Sb ps L T M) : (∀ i ∈ ps, M i ∈ lessT T (dueUp T cyc cyc.length) i) ↔ haveN cyc M = 0 := by
  have hlen : 0 < cyc.length := List.length_pos_iff.mpr R.ne
  constructor
  · intro h
    rcases S.have G B R with h0 | ⟨_, h1⟩
    · exact h0
    · exfalso
      have hr' := R.rm G B (nx_lt hlen)
      have hMr : M (ro cyc (nx cyc 0)) = lo cyc (nx cyc 0) := by rw [← h1 _ (nx_lt hlen)]; exact S.inv.inv _ (R.lm G B (nx_lt hlen))
      have hh := h _ hr'
      unfold lessT at hh
      rw [List.mem_filter] at hh
      have : srt2 (ro cyc (nx cyc 0)) (M (ro cyc (nx cyc 0))) ∈ dueUp T cyc cyc.length := by
        rw [due_iff' G B R]
        refine ⟨0, hlen, .inl ⟨rfl, S.wi _ hr', ?_⟩⟩
        rw [hMr]
        exact bef_last (B.sub _) (G.nd _) (R.last' (nx_lt hlen)) (B.sym _ _ (R.lr' hlen)) (R.lne G B hlen)
      simp [this] at hh
  · intro h0 x hx
    unfold lessT
    rw [List.mem_filter]
    refine ⟨S.wi x hx, ?_⟩
    suffices h : srt2 x (M x) ∉ dueUp T cyc cyc.length by simpa using h
    intro hd
    have : ∃ i < cyc.length, bef L (ro cyc (nx cyc i)) (lo cyc i) (M (ro cyc (nx cyc i))) := by
      obtain ⟨i, hi, ⟨e, h1, h2⟩ | ⟨e, h1, h2⟩⟩ := (due_iff' G B R).mp hd
      · exact ⟨i, hi, by rw [← e]; exact h2⟩
      · exact ⟨i, hi, by rw [← e, S.inv.inv _ hx]; exact h2⟩
    obtain ⟨i, hi, hb⟩ := this
    obtain ⟨r, hr⟩ := R.top' hi
    have hl := R.lm G B hi
    have hw := S.wi _ hl
    rw [hr] at hw
    rcases List.mem_cons.mp hw with q | q
    · exact have_zero.mp h0 i hi q
    · rcases List.mem_cons.mp q with q | q
      · rw [← q, S.inv.inv _ hl] at hb; exact bef_irr hb
      · exact S.stb _ hl _ ((B.sub _).subset (R.lr' hi)) (bef_after (B.sub _) (G.nd _) (A := [ro cyc i]) hr _ q) hb
theorem Sb.turn (G : LGood ps L) (B : Tab ps L T) (R : Rot T cyc) (S : Sb ps L T M) (hM : ∀ i, i < cyc.length → M (lo cyc i) = ro cyc i) : ∃ M', Sb ps L T M' ∧ haveN cyc M' = 0 := by
  have hMr : ∀ i, i < cyc.length → M (ro cyc i) = lo cyc i := fun i hi => by rw [← hM i hi]; exact S.inv.inv _ (R.lm G B hi)
  have dis : ∀ i j, i < cyc.length → j < cyc.length → lo cyc i ≠ ro cyc j := by
    intro i j hi hj e
    have h1 : ro cyc i = lo cyc j := by rw [← hM i hi, e, hMr j hj]
    obtain ⟨r, hr⟩ := R.top' hi
    have h2 := R.last' hj
    rw [← e, ← h1, hr] at h2
    have hnd := B.nd G (lo cyc i)
    rw [hr, List.nodup_cons] at hnd
    exact hnd.1 (last_mem' (by simpa [List.getLast?_cons_cons] using h2))
  obtain ⟨M', ml, mr, mo⟩ : ∃ M' : Pl → Pl, (∀ i, i < cyc.length → M' (lo cyc i) = ro cyc (nx cyc i)) ∧ (∀ i, i < cyc.length → M' (ro cyc (nx cyc i)) = lo cyc i) ∧ (∀ x, (∀ i, i < cyc.length → x ≠ lo cyc i) → (∀ i, i < cyc.length → x ≠ ro cyc (nx cyc i)) → M' x = M x) := by
    classical
    refine ⟨fun x => if h : ∃ i, i < cyc.length ∧ x = lo cyc i then ro cyc (nx cyc h.choose) else if h : ∃ i, i < cyc.length ∧ x = ro cyc (nx cyc i) then lo cyc h.choose else M x, fun i hi => ?_, fun i hi => ?_, fun x h1 h2 => ?_⟩
    · have h : ∃ j, j < cyc.length ∧ lo cyc i = lo cyc j := ⟨i, hi, rfl⟩
      show dite _ _ _ = _
      rw [dif_pos h]
      have := h.choose_spec
      rw [← R.linj hi this.1 this.2]
    · have h1 : ¬ ∃ j, j < cyc.length ∧ ro cyc (nx cyc i) = lo cyc j := fun ⟨j, hj, e⟩ => dis j _ hj (nx_lt hi) e.symm
      have h : ∃ j, j < cyc.length ∧ ro cyc (nx cyc i) = ro cyc (nx cyc j) := ⟨i, hi, rfl⟩
      show dite _ _ _ = _
      rw [dif_neg h1, dif_pos h]
      have := h.choose_spec
      rw [← mod_inj hi this.1 (R.rinj (nx_lt hi) (nx_lt this.1) this.2)]
    · show dite _ _ _ = _
      rw [dif_neg (fun ⟨j, hj, e⟩ => h1 j hj e), dif_neg (fun ⟨j, hj, e⟩ => h2 j hj e)]
  have cases3 : ∀ x, (∃ i, i < cyc.length ∧ x = lo cyc i) ∨ (∃ i, i < cyc.length ∧ x = ro cyc (nx cyc i)) ∨ ((∀ i, i < cyc.length → x ≠ lo cyc i) ∧ (∀ i, i < cyc.length → x ≠ ro cyc (nx cyc i))) := by
    intro x
    by_cases h1 : ∃ i, i < cyc.length ∧ x = lo cyc i
    · exact .inl h1
    · by_cases h2 : ∃ i, i < cyc.length ∧ x = ro cyc (nx cyc i)
      · exact .inr (.inl h2)
      · exact .inr (.inr ⟨fun i hi e => h1 ⟨i, hi, e⟩, fun i hi e => h2 ⟨i, hi, e⟩⟩)
  have wi : ∀ x ∈ ps, M' x ∈ T x := by
    intro x hx
    rcases cases3 x with ⟨i, hi, rfl⟩ | ⟨i, hi, rfl⟩ | ⟨h1, h2⟩
    · rw [ml i hi]; exact R.lr' hi
    · rw [mr i hi]; exact B.sym _ _ (R.lr' hi)
    · rw [mo x h1 h2]; exact S.wi x hx
  have rsome : ∀ i, i < cyc.length → ∀ x, (∀ i, i < cyc.length → x ≠ ro cyc (nx cyc i)) → x ≠ ro cyc i := by
    intro i hi x h e
    obtain ⟨j, hj, q⟩ := nx_surj hi
    exact h j hj (by rw [q]; exact e)
  have inv : Inv ps M' := by
    refine ⟨fun x hx => (B.mem G (wi x hx)).2.1, fun x hx => (B.mem G (wi x hx)).2.2, fun x hx => ?_⟩
    rcases cases3 x with ⟨i, hi, rfl⟩ | ⟨i, hi, rfl⟩ | ⟨h1, h2⟩
    · rw [ml i hi, mr i hi]
    · rw [mr i hi, ml i hi]
    · have e := S.inv.inv x hx
      rw [mo x h1 h2, mo (M x), e]
      · intro i hi q
        rw [q, hM i hi] at e
        exact rsome i hi x h2 e.symm
      · intro i hi q
        rw [q, hMr _ (nx_lt hi)] at e
        exact h1 _ (nx_lt hi) e.symm
  have better : ∀ x, (∀ i, i < cyc.length → x ≠ lo cyc i) → ∀ y, bef L x y (M' x) → bef L x y (M x) := by
    intro x h1 y hb
    rcases cases3 x with ⟨i, hi, e⟩ | ⟨i, hi, rfl⟩ | ⟨_, h2⟩
    · exact absurd e (h1 i hi)
    · rw [mr i hi] at hb
      rw [hMr _ (nx_lt hi)]
      exact bef_trans hb (bef_last (B.sub _) (G.nd _) (R.last' (nx_lt hi)) (B.sym _ _ (R.lr' hi)) (R.lne G B hi))
    · rw [mo x h1 h2] at hb; exact hb
  have left : ∀ i, i < cyc.length → ∀ y ∈ ps, y ∈ L (lo cyc i) → bef L (lo cyc i) y (M' (lo cyc i)) → bef L y (lo cyc i) (M' y) → False := by
    intro i hi y hy hyL hb hb2
    rw [ml i hi] at hb
    obtain ⟨r, hr⟩ := R.top' hi
    by_cases hT : y ∈ T (lo cyc i)
    · rw [hr] at hT
      rcases List.mem_cons.mp hT with q | q
      · subst q
        obtain ⟨j, hj, rfl⟩ := nx_surj hi
        rw [mr j hj] at hb2
        exact bef_asym hb2 (bef_last (B.sub _) (G.nd _) (R.last' (nx_lt hj)) (B.sym _ _ (R.lr' hj)) (R.lne G B hj))
      · rcases List.mem_cons.mp q with q | q
        · rw [q] at hb; exact bef_irr hb
        · exact bef_asym hb (bef_after (B.sub _) (G.nd _) (A := [ro cyc i]) hr _ q)
    · rcases B.del _ _ hyL hT with h | h
      · exact bef_asym hb (h _ (R.lr' hi))
      · exact bef_asym hb2 (h _ (wi y hy))
  refine ⟨M', ⟨inv, fun x hx y hy hb hb2 => ?_, wi⟩, ?_⟩
  · have hyp := G.mem x y hy
    have hxy : x ≠ y := fun q => G.ne x (by rw [← q] at hy; exact hy)
    have hxL : x ∈ L y := G.all y hyp x hx hxy
    by_cases h1 : ∃ i, i < cyc.length ∧ x = lo cyc i
    · obtain ⟨i, hi, rfl⟩ := h1
      exact left i hi y hyp hy hb hb2
    · by_cases h2 : ∃ i, i < cyc.length ∧ y = lo cyc i
      · obtain ⟨i, hi, rfl⟩ := h2
        exact left i hi x hx hxL hb2 hb
      · exact S.stb x hx y hy (better x (fun i hi e => h1 ⟨i, hi, e⟩) y hb) (better y (fun i hi e => h2 ⟨i, hi, e⟩) x hb2)
  · rw [have_zero]
    intro i hi
    rw [ml i hi]
    exact (R.rne G B hi).symm
theorem Sb.congr {M' : Pl → Pl} (G : LGood ps L) (S : Sb ps L T M) (e : ∀ i ∈ ps, M' i = M i) : Sb ps L T M' := by
  refine ⟨⟨fun i hi => by rw [e i hi]; exact S.inv.mem i hi, fun i hi => by rw [e i hi]; exact S.inv.ne i hi, fun i hi => by rw [e i hi, e _ (S.inv.mem i hi)]; exact S.inv.inv i hi⟩, fun i hi j hj => ?_, fun i hi => by rw [e i hi]; exact S.wi i hi⟩
  rw [e i hi, e j (G.mem i j hj)]
  exact S.stb i hi j hj
theorem mem_stableOf {P : List (Pl × Pl)} : P ∈ stableOf ps L ↔ P ∈ pairF 6 ps ∧ stb ps L (mf P) := by
  unfold stableOf
  rw [List.mem_filter]
  simp
theorem Sb.of {P : List (Pl × Pl)} (hnd : ps.Nodup) (h : P ∈ stableOf ps L) (hw : within P (mf P) T = true) : Sb ps L T (mf P) := by
  obtain ⟨h1, h2⟩ := mem_stableOf.mp h
  exact ⟨mf_inv hnd h1, stb_iff.mp h2, (within_iff (mf_mate hnd h1)).mp hw⟩
theorem Rot.taken (G : LGood ps L) (hnd : ps.Nodup) (hps : ps.length ≤ 6) (B : Tab ps L T) (R : Rot T cyc) : Taken ps T cyc (dueUp T cyc cyc.length) (stableOf ps L) := by
  have mat : ∀ P ∈ stableOf ps L, MateOk ps P (mf P) := fun P hP => mf_mate hnd (mem_stableOf.mp hP).1
  have les : ∀ P ∈ stableOf ps L, within P (mf P) T = true → within P (mf P) (lessT T (dueUp T cyc cyc.length)) = decide (haveN cyc (mf P) = 0) := by
    intro P hP hw
    rw [Bool.eq_iff_iff, within_iff (mat P hP), decide_eq_true_iff]
    exact (Sb.of hnd hP hw).less G B R
  refine ⟨fun P hP => ⟨mat P hP, ?_⟩, fun P hP hw => ⟨?_, les P hP hw⟩, ?_, R.back G hnd B⟩
  · have := (pairF_keys 6 ps hnd P (mem_stableOf.mp hP).1).2.2
    omega
  · rcases (Sb.of hnd hP hw).have G B R with h | ⟨h, _⟩
    · exact .inl h
    · exact .inr h
  · rintro ⟨P, hP, hw⟩
    have S := Sb.of hnd hP hw
    rcases S.have G B R with h | ⟨_, h⟩
    · exact ⟨P, hP, hw, by rw [les P hP hw]; simpa using h⟩
    · obtain ⟨M', S', h0⟩ := S.turn G B R h
      obtain ⟨P', hP', e⟩ := pairF_all 6 ps M' hnd hps (fun i hi => ⟨S'.inv.mem i hi, S'.inv.ne i hi, S'.inv.inv i hi⟩)
      have S'' : Sb ps L T (mf P') := S'.congr G e
      have hS : P' ∈ stableOf ps L := mem_stableOf.mpr ⟨hP', stb_iff.mpr S''.stb⟩
      have hw' := (within_iff (mat P' hS)).mpr S''.wi
      refine ⟨P', hS, hw', ?_⟩
      rw [les P' hS hw', decide_eq_true_iff, have_zero]
      intro i hi
      rw [e _ (R.lm G B hi)]
      exact have_zero.mp h0 i hi
end
end RM
end
noncomputable section
namespace RM
theorem pairF_few : ∀ (f : Nat) (l : List Pl) (m : Nat), l.Nodup → l.length ≤ 6 → l.length ≤ 2 * m → (pairF f l).length ≤ 5 ^ m
  | f, [], m, _, _, _ => by
    have : pairF f [] = [[]] := by cases f <;> rfl
    rw [this]
    exact Nat.pos_of_ne_zero (by simp)
  | 0, x :: r, m, _, _, _ => by simp [pairF]
  | f + 1, x :: r, m, nd, h6, hm => by
    match m, hm with
    | 0, hm => simp at hm
    | m + 1, hm =>
      rw [List.nodup_cons] at nd
      simp only [pairF, List.length_flatMap, List.length_map]
      have h5 : r.length ≤ 5 := by simp at h6; omega
      have : ∀ o ∈ r, (pairF f (rem r o)).length ≤ 5 ^ m := fun o ho => by
        have := rem_len r o nd.2 ho
        simp at hm
        exact pairF_few f (rem r o) m (nd.2.filter _) (by omega) (by omega)
      have hs : ∀ (s : List Pl), (∀ o ∈ s, (pairF f (rem r o)).length ≤ 5 ^ m) → (s.map fun o => (pairF f (rem r o)).length).sum ≤ s.length * 5 ^ m := by
        intro s
        induction s with
        | nil => simp
        | cons a s ih =>
          intro h
          have h1 := h a (by simp)
          have h2 := ih fun o ho => h o (by simp [ho])
          simp only [List.map_cons, List.sum_cons, List.length_cons, Nat.succ_mul]
          omega
      refine Nat.le_trans (hs r this) ?_
      rw [Nat.pow_succ, Nat.mul_comm]
      exact Nat.mul_le_mul_left _ h5
section
variable {c : KB} {k : Nat}
def cutL (ps : List Pl) (T : Pl → List Pl) (i : Pl) : List Pl := if i ∈ ps then T i else []
theorem dictV_cut (ps : List Pl) (T : Pl → List Pl) : dictV ps (cutL ps T) = dictV ps T := by
  unfold dictV
  refine List.map_congr_left fun i hi => ?_
  unfold cutL
  rw [if_pos hi]
theorem mem_others {ps : List Pl} {i j : Pl} : j ∈ others ps i ↔ j ∈ ps ∧ j ≠ i := by simp [others]
theorem cut_mem {ps : List Pl} {T : Pl → List Pl} (hp : ∀ j ∈ ps, (T j).Perm (others ps j)) {i j : Pl} : j ∈ cutL ps T i ↔ i ∈ ps ∧ j ∈ ps ∧ j ≠ i := by
  unfold cutL
  by_cases h : i ∈ ps
  · rw [if_pos h, (hp i h).mem_iff, mem_others]; simp [h]
  · rw [if_neg h]; simp [h]
theorem cut_good {ps : List Pl} {T : Pl → List Pl} (hnd : ps.Nodup) (hp : ∀ j ∈ ps, (T j).Perm (others ps j)) : LGood ps (cutL ps T) := by
  refine ⟨fun i j h => ((cut_mem hp).mp h).2.1, fun i j h => ((cut_mem hp).mp h).1, fun i h => ((cut_mem hp).mp h).2.2 rfl, fun i => ?_, fun i hi j hj hne => (cut_mem hp).mpr ⟨hi, hj, hne⟩⟩
  unfold cutL
  by_cases h : i ∈ ps
  · rw [if_pos h, (hp i h).nodup_iff]; exact hnd.filter _
  · rw [if_neg h]; exact List.nodup_nil
theorem law_end (H : Fns c) (hk : k + 10 ≤ 150) {n : Nat} (hn : n = 4 ∨ n = 6) {T0 : Pl → List Pl} (hp : ∀ j ∈ psN n, (T0 j).Perm (others (psN n) j)) :
    ∃ σ', TrSs c k (fdScope S_law) ⟨wVs (some (.val (.dict (dictV (psN n) T0)))) none none none none none none none, []⟩ ((fdBody S_law).drop 1) (.ret (.bool true)) σ' := by
  have ok := psOkN hn
  have hlen := psLen hn
  generalize psN n = ps at *
  have hnd := ok.nd
  rw [← dictV_cut]
  have G := cut_good hnd hp
  generalize cutL ps T0 = L at *
  have hps : ps.length ≤ 6 := by omega
  have h2 : 1 < ps.length := by omega
  have hll : ∀ i, (L i).length ≤ 100 := fun i => by
    have := nodup_len (L i) ps (G.nd i) (fun x hx => G.mem i x hx)
    omega
  obtain ⟨T, mt, hrun, B⟩ := phase1 G hnd (by omega) h2 hll
  have hne : ∀ i, ∀ j ∈ L i, j ≠ i := fun i j h q => G.ne i (by rw [q] at h; exact h)
  refine law_rest H hk ok hps (fun i hi j h => ⟨G.mem i j h, hne i j h⟩) ⟨G.mem, fun i hi j h => G.all j (G.mem i j h) i hi (Ne.symm (hne i j h))⟩ hll (fun i => by have := B.len G hps i; omega) (fun x y h => (B.mem G h).2.1) hrun (fun P hP => ⟨mf_mate hnd hP, fun i hi => ?_⟩) ?_ (fun i hi ht => ?_)
  · have I := mf_inv hnd hP
    exact G.all i hi _ (I.mem i hi) (I.ne i hi)
  · have := pairF_few 6 ps 3 hnd hps (by omega)
    omega
  · have hT : ∃ x s r, T i = x :: s :: r := by
      match e : T i, ht with
      | x :: s :: r, _ => exact ⟨x, s, r, rfl⟩
    obtain ⟨ls0, ss', w, h1, h2, h3, h4, h5⟩ := loc_exists G hnd hps B 6 [i] [] i rfl (by simp) (by simpa using hi) ⟨rfl, rfl, fun k h => by simp at h, fun k h => by simp at h⟩ hT
    have R := rot_of G hnd B h2 h3 h4
    exact ⟨_, ss', w, h1, R.data G hps B (R.taken G hnd hps B)⟩
end
end RM
end
noncomputable section
namespace RM
theorem ints_reps {w : World} {g : G} : ∀ {vs : List Value} {ns : List Int}, IntsAre vs ns → Reps w g vs (ns.map .int)
  | _, _, .nil => .nil
  | _, _, .cons n t r => .cons (.int n t) (ints_reps r)
theorem ints_len : ∀ {vs : List Value} {ns : List Int}, IntsAre vs ns → vs.length = ns.length
  | _, _, .nil => rfl
  | _, _, .cons n t r => by simp [ints_len r]
section
variable {c : KB} {k : Nat}
theorem law_one (H : Fns c) (hk : k + 10 ≤ 150) {n : Nat} {T0 : Pl → List Pl} {ns : List Int} {aL : Addr} (fL : FnOk c aL S_lists) (gL : c.mg "_law_lists" = some (.ref aL))
    (hsp : FnSpec c k aL [.list ((ns.take 7).map .int)] [] (.dict (dictV (psN n) T0)) [])
    {a : Addr} {items : Array Value} (hI : IntsAre items.toList ns) (hns : ns.length ≤ 63)
    {A : Around} {env : Env} {g : G} {s : Shared} {Q : Flow → Shared → Prop} {E : Value → Shared → Prop} (L : Lim k A) (V : EnvSc env (fdScope S_law)) (F : FSim c (fdScope S_law) env ⟨wVs none none none none none none none none, []⟩ g s)
    (hs : SlotAt env s.heap "script" .local (.ref a)) (hl : c.B0.IsList a items)
    (hQ : ∀ f g' s', g.le g' → FSim c (fdScope S_law) env ⟨wVs (some (.val (.dict (dictV (psN n) T0)))) none none none none none none none, []⟩ g' s' → FlowOk c.w g' .next f → Q f s') :
    wpAny (model c.prog c.w) A (exec (nthS 0 (fdBody S_law)) env) Q E s := by
  have hln : items.size ≤ sizeLine := by
    have := ints_len hI
    rw [Array.length_toList] at this
    exact Nat.le_trans (by omega) (show 63 ≤ sizeLine by decide)
  have inner : wpAny (model c.prog c.w) A (eval (.Subscript (.Name "script" ⟨183, 23, 183, 29⟩) (.Slice none (some (.Constant (.int 7) 0 ⟨183, 31, 183, 32⟩)) none ⟨183, 30, 183, 32⟩) ⟨183, 23, 183, 33⟩) env)
      (fun v s' => ∃ g', Next c (fdScope S_law) env ⟨wVs none none none none none none none none, []⟩ g s g' s' ∧ Rep c.w g' v (.list ((ns.take 7).map .int))) E s := by
    refine Subscript_ (wpAny_Name ?_ (by decide))
    obtain ⟨m, hm, e⟩ := id hs
    refine wpAny_loadName_local V.kind (V.loc _ (by rfl)) hm e ?_
    refine wpAny_Slice (part_wp (σ' := ⟨wVs none none none none none none none none, []⟩) part_none L V F fun vl g2 s2 N2 pl => part_wp (n := some 7) (σ' := ⟨wVs none none none none none none none none, []⟩) (part_some tr_int rfl) L V N2.sim fun vu g3 s3 N3 pu => ?_)
    rw [evalPart_none]
    refine wpAny_pure ?_
    have hl3 : s3.heap.IsList a items := let ⟨o, e1, r⟩ := hl; ⟨o, N3.sim.gs.heap0 _ _ e1, r⟩
    have hl4 : (s3.heap.push { cls := .type "slice", data := .fields #[vl, vu, .none] }).IsList a items := let ⟨o, e1, r⟩ := hl3; ⟨o, push_ext _ _ _ _ e1, r⟩
    refine tail_any (T := "list") hl4.typeIs slot_list_getitem.lookup (wpAny_getItem_list_slice hl4 (Heap.IsSliceOf.new ..) pl pu .none (by simp) ?_ hln) rfl
    have r' := slicePick_rep (c := c) (g := g3) (ints_reps hI) (lo := none) (hi := some 7) (.inl rfl)
    have F4 := N3.sim.ext (s' := { s3 with heap := s3.heap.push { cls := .type "slice", data := .fields #[vl, vu, .none] } }) (push_ext _ _) rfl rfl
    obtain ⟨F5, l5⟩ := F4.freeze (s' := { s3 with heap := (s3.heap.push { cls := .type "slice", data := .fields #[vl, vu, .none] }).push { cls := .type "list", data := .seq _ 0 } }) (push_none _) (push_ext _ _) (Heap.get?_push_size _ rfl) rfl rfl
    refine ⟨_, ⟨(N2.trans N3).le.trans l5, F5, (N2.trans N3).stay.trans ((Stay.ext (push_ext _ _)).trans (Stay.ext (push_ext _ _)))⟩, ?_⟩
    rw [List.map_take]
    exact .list (G.addFz_self ..) (r'.le l5) (Nat.le_trans (slicePick_size_le ..) hln)
  refine wpAny_Assign_Name ?_ (by rfl)
  refine wpAny_Call_NameR (load_global V F.gs (by rfl) gL ?_)
  obtain ⟨o, fd, ho, hd⟩ := fL.isFn
  refine Calls.callWith_function (o := o) (fd := fd) ?_
  refine Calls.evalArgs_plain ?_
  refine args_cons (wpAny_mono inner (fun v s' hv => ?_) (fun _ _ x => x)) rfl
  obtain ⟨g', N, r⟩ := hv
  refine args_nil ⟨⟨N.sim.gs.heap0 _ _ ho, hd⟩, ?_⟩
  refine call_fn hsp L N.sim (.cons r .nil) fun v g'' s'' N' r' => ?_
  refine store_var (i := 1) (b := .val (.dict (dictV (psN n) T0))) V N'.sim (by rfl) (.inr rfl) r' (fun h => by cases h) fun s'' F'' => hQ _ g'' s'' (N.le.trans N'.le) F'' trivial
end
end RM
end
noncomputable section
namespace RM
section
variable {c : KB} {k : Nat}
theorem law_all (H : Fns c) (hk : k + 10 ≤ 150) {ns : List Int} {a : Addr} {items : Array Value} (hI : IntsAre items.toList ns) (hns : ns.length ≤ 63)
    {A : Around} {env : Env} {g : G} {s : Shared} {Q : Flow → Shared → Prop} {E : Value → Shared → Prop} (L : Lim k A) (V : EnvSc env (fdScope S_law)) (F : FSim c (fdScope S_law) env ⟨wVs none none none none none none none none, []⟩ g s)
    (hs : SlotAt env s.heap "script" .local (.ref a)) (hl : c.B0.IsList a items)
    (hQ : ∀ s', HExt c.B0 s'.heap → s'.gens = #[] → s'.os = c.os → (∃ m, s'.heap.Ns env.locals m) → Q (.ret (.bool true)) s') :
    wpAny (model c.prog c.w) A (execs (fdBody S_law) env) Q E s := by
  obtain ⟨aO, fO, gO⟩ := H.order
  obtain ⟨aL, fL, gL⟩ := H.lists
  obtain ⟨n, T0, hn, hp, hsp⟩ := lists_spec (c := c) (k := k) (pl := []) H.ne H.nl H.nli H.dm fO gO fL (by omega) (ns.take 7) (by rw [List.length_take]; omega)
  have hb : fdBody S_law = nthS 0 (fdBody S_law) :: (fdBody S_law).drop 1 := by rfl
  rw [hb]
  refine wpAny_execs_cons (law_one H hk fL gL hsp hI hns L V F hs hl fun f g' s' l F' hf => ?_)
  cases f with
  | next =>
    obtain ⟨σ', h⟩ := law_end H hk hn hp
    refine h A env g' s' _ E L V F' fun f g'' s'' l' F'' hf' => ?_
    cases f with
    | ret v =>
      cases hf' with
      | bool b => exact hQ s'' F''.gs.heap0 F''.gs.gens F''.gs.os F''.fs.ns
    | _ => exact hf'.elim
  | _ => exact hf.elim
end
end RM
end
noncomputable section
namespace RM
def fnD (K : Frag) (a : Addr) : FuncData := match K.lookup a with
  | some ⟨_, _, .func fd, _⟩ => fd
  | _ => default
def codeQ (K : Frag) (cd : Addr) : Option Str := match K.lookup cd with
  | some ⟨_, _, .fields vs, _⟩ => (match vs[1]? with | some (Value.str q _) => some q | _ => none)
  | _ => none
theorem codeRec_of {K : Frag} {h : Heap} (X : K.In h) {cd : Addr} {q : Str} (e : codeQ K cd = some q) : h.CodeRec (.ref cd) q := by
  unfold codeQ at e
  split at e
  · rename_i c d vs sl ho
    split at e
    · rename_i q' t hv
      cases e
      exact ⟨cd, _, vs, t, rfl, X _ _ ho, rfl, hv⟩
    · cases e
  · cases e
theorem fnD_at {K : Frag} {h : Heap} (X : K.In h) {a : Addr} (e : fnIn K a = true) : ∃ o, h.get? a = some o ∧ K.lookup a = some o ∧ o.data = .func (fnD K a) := by
  unfold fnIn at e
  split at e
  · rename_i c d fd sl ho
    refine ⟨_, X _ _ ho, ho, ?_⟩
    unfold fnD; rw [ho]
  · cases e
structure FnF (K : Frag) (a cd : Addr) (st : Stmt) : Prop where
  fn : fnIn K a = true
  body : (fnD K a).body = .stmts (fdBody st)
  scope : (fnD K a).scope = fdScope st
  clo : (fnD K a).closure = []
  code : (fnD K a).code = .ref cd
  q : codeQ K cd = some (fnD K a).qualname
  g : (fnD K a).globals = mainGlobals
  b : (fnD K a).builtins = builtinsNs
  bind : ∀ vals : List Value, vals.length = (fdNames st).length → bindArgs (fnD K a) ⟨vals, []⟩ = pure ((fdNames st).zip vals)
theorem FnF.ok {c : KB} {a cd : Addr} {st : Stmt} (X : c.K.In c.B0) (F : FnF c.K a cd st) : FnOk c a st := by
  obtain ⟨o, h1, _, h2⟩ := fnD_at X F.fn
  exact ⟨o, _, h1, h2, F.body, F.scope, F.clo, by rw [F.code]; exact codeRec_of X F.q, F.g, F.b, F.bind⟩
theorem bind1 {fd : FuncData} {l : List Str} (e : l.length = 1) (h : ∀ v, bindArgs fd ⟨[v], []⟩ = pure (l.zip [v])) : ∀ vals : List Value, vals.length = l.length → bindArgs fd ⟨vals, []⟩ = pure (l.zip vals) := by
  rw [e]; intro vals hv
  match vals, hv with
  | [v], _ => exact h v
theorem bind2 {fd : FuncData} {l : List Str} (e : l.length = 2) (h : ∀ v u, bindArgs fd ⟨[v, u], []⟩ = pure (l.zip [v, u])) : ∀ vals : List Value, vals.length = l.length → bindArgs fd ⟨vals, []⟩ = pure (l.zip vals) := by
  rw [e]; intro vals hv
  match vals, hv with
  | [v, u], _ => exact h v u
theorem bind4 {fd : FuncData} {l : List Str} (e : l.length = 4) (h : ∀ v u x y, bindArgs fd ⟨[v, u, x, y], []⟩ = pure (l.zip [v, u, x, y])) : ∀ vals : List Value, vals.length = l.length → bindArgs fd ⟨vals, []⟩ = pure (l.zip vals) := by
  rw [e]; intro vals hv
  match vals, hv with
  | [v, u, x, y], _ => exact h v u x y
end RM
end
noncomputable section
namespace RM
structure FnG (K : Frag) (a cd : Addr) (st : Stmt) : Prop where
  fn : fnIn K a = true
  body : (fnD K a).body = .stmts (fdBody st)
  scope : (fnD K a).scope = fdScope st
  clo : (fnD K a).closure = []
  code : (fnD K a).code = .ref cd
  q : codeQ K cd = some (fnD K a).qualname
  g : (fnD K a).globals = mainGlobals
  b : (fnD K a).builtins = builtinsNs
theorem FnG.ff {K : Frag} {a cd : Addr} {st : Stmt} (F : FnG K a cd st) (h : ∀ vals : List Value, vals.length = (fdNames st).length → bindArgs (fnD K a) ⟨vals, []⟩ = pure ((fdNames st).zip vals)) : FnF K a cd st :=
  ⟨F.fn, F.body, F.scope, F.clo, F.code, F.q, F.g, F.b, h⟩
structure KFuns (K : Frag) : Prop where
  g_delete : FnG K 28 27 S_delete
  b_delete : ∀ v u, bindArgs (fnD K 28) ⟨[v, u], []⟩ = pure ((fdNames S_delete).zip [v, u])
  g_first : FnG K 35 34 S_first
  b_first : ∀ v, bindArgs (fnD K 35) ⟨[v], []⟩ = pure ((fdNames S_first).zip [v])
  g_locate : FnG K 42 41 S_locate
  b_locate : ∀ v, bindArgs (fnD K 42) ⟨[v], []⟩ = pure ((fdNames S_locate).zip [v])
  g_pairs : FnG K 49 48 S_pairs
  b_pairs : ∀ v, bindArgs (fnD K 49) ⟨[v], []⟩ = pure ((fdNames S_pairs).zip [v])
  g_binit : FnG K 63 62 S_binit
  b_binit : ∀ v u, bindArgs (fnD K 63) ⟨[v, u], []⟩ = pure ((fdNames S_binit).zip [v, u])
  g_forget : FnG K 75 74 S_forget
  b_forget : ∀ v u, bindArgs (fnD K 75) ⟨[v, u], []⟩ = pure ((fdNames S_forget).zip [v, u])
  g_setprefs : FnG K 94 93 S_setprefs
  b_setprefs : ∀ v u, bindArgs (fnD K 94) ⟨[v, u], []⟩ = pure ((fdNames S_setprefs).zip [v, u])
  g_match : FnG K 166 165 S_match
  b_match : ∀ v u, bindArgs (fnD K 166) ⟨[v, u], []⟩ = pure ((fdNames S_match).zip [v, u])
  g_unmatch : FnG K 173 172 S_unmatch
  b_unmatch : ∀ v, bindArgs (fnD K 173) ⟨[v], []⟩ = pure ((fdNames S_unmatch).zip [v])
  g_fav : FnG K 180 179 S_fav
  b_fav : ∀ v, bindArgs (fnD K 180) ⟨[v], []⟩ = pure ((fdNames S_fav).zip [v])
  g_succ : FnG K 187 186 S_succ
  b_succ : ∀ v, bindArgs (fnD K 187) ⟨[v], []⟩ = pure ((fdNames S_succ).zip [v])
  g_order : FnG K 207 206 S_order
  b_order : ∀ v u, bindArgs (fnD K 207) ⟨[v, u], []⟩ = pure ((fdNames S_order).zip [v, u])
  g_lists : FnG K 212 211 S_lists
  b_lists : ∀ v, bindArgs (fnD K 212) ⟨[v], []⟩ = pure ((fdNames S_lists).zip [v])
  g_pairings : FnG K 217 216 S_pairings
  b_pairings : ∀ v, bindArgs (fnD K 217) ⟨[v], []⟩ = pure ((fdNames S_pairings).zip [v])
  g_stable : FnG K 224 223 S_stable
  b_stable : ∀ v u, bindArgs (fnD K 224) ⟨[v, u], []⟩ = pure ((fdNames S_stable).zip [v, u])
  g_players : FnG K 229 228 S_players
  b_players : ∀ v u, bindArgs (fnD K 229) ⟨[v, u], []⟩ = pure ((fdNames S_players).zip [v, u])
  g_left : FnG K 234 233 S_left
  b_left : ∀ v, bindArgs (fnD K 234) ⟨[v], []⟩ = pure ((fdNames S_left).zip [v])
  g_within : FnG K 239 238 S_within
  b_within : ∀ v u, bindArgs (fnD K 239) ⟨[v, u], []⟩ = pure ((fdNames S_within).zip [v, u])
  g_cycle : FnG K 244 243 S_cycle
  b_cycle : ∀ v u, bindArgs (fnD K 244) ⟨[v, u], []⟩ = pure ((fdNames S_cycle).zip [v, u])
  g_taken : FnG K 249 248 S_taken
  b_taken : ∀ v u x y, bindArgs (fnD K 249) ⟨[v, u, x, y], []⟩ = pure ((fdNames S_taken).zip [v, u, x, y])
section
variable {K : Frag}
theorem KFuns.delete (H : KFuns K) : FnF K 28 27 S_delete := H.g_delete.ff (bind2 (by decide +kernel) H.b_delete)
theorem KFuns.first (H : KFuns K) : FnF K 35 34 S_first := H.g_first.ff (bind1 (by decide +kernel) H.b_first)
theorem KFuns.locate (H : KFuns K) : FnF K 42 41 S_locate := H.g_locate.ff (bind1 (by decide +kernel) H.b_locate)
theorem KFuns.pairs (H : KFuns K) : FnF K 49 48 S_pairs := H.g_pairs.ff (bind1 (by decide +kernel) H.b_pairs)
theorem KFuns.binit (H : KFuns K) : FnF K 63 62 S_binit := H.g_binit.ff (bind2 (by decide +kernel) H.b_binit)
theorem KFuns.forget (H : KFuns K) : FnF K 75 74 S_forget := H.g_forget.ff (bind2 (by decide +kernel) H.b_forget)
theorem KFuns.setprefs (H : KFuns K) : FnF K 94 93 S_setprefs := H.g_setprefs.ff (bind2 (by decide +kernel) H.b_setprefs)
theorem KFuns.match (H : KFuns K) : FnF K 166 165 S_match := H.g_match.ff (bind2 (by decide +kernel) H.b_match)
theorem KFuns.unmatch (H : KFuns K) : FnF K 173 172 S_unmatch := H.g_unmatch.ff (bind1 (by decide +kernel) H.b_unmatch)
theorem KFuns.fav (H : KFuns K) : FnF K 180 179 S_fav := H.g_fav.ff (bind1 (by decide +kernel) H.b_fav)
theorem KFuns.succ (H : KFuns K) : FnF K 187 186 S_succ := H.g_succ.ff (bind1 (by decide +kernel) H.b_succ)
theorem KFuns.order (H : KFuns K) : FnF K 207 206 S_order := H.g_order.ff (bind2 (by decide +kernel) H.b_order)
theorem KFuns.lists (H : KFuns K) : FnF K 212 211 S_lists := H.g_lists.ff (bind1 (by decide +kernel) H.b_lists)
theorem KFuns.pairings (H : KFuns K) : FnF K 217 216 S_pairings := H.g_pairings.ff (bind1 (by decide +kernel) H.b_pairings)
theorem KFuns.stable (H : KFuns K) : FnF K 224 223 S_stable := H.g_stable.ff (bind2 (by decide +kernel) H.b_stable)
theorem KFuns.players (H : KFuns K) : FnF K 229 228 S_players := H.g_players.ff (bind2 (by decide +kernel) H.b_players)
theorem KFuns.left (H : KFuns K) : FnF K 234 233 S_left := H.g_left.ff (bind1 (by decide +kernel) H.b_left)
theorem KFuns.within (H : KFuns K) : FnF K 239 238 S_within := H.g_within.ff (bind2 (by decide +kernel) H.b_within)
theorem KFuns.cycle (H : KFuns K) : FnF K 244 243 S_cycle := H.g_cycle.ff (bind2 (by decide +kernel) H.b_cycle)
theorem KFuns.taken (H : KFuns K) : FnF K 249 248 S_taken := H.g_taken.ff (bind4 (by decide +kernel) H.b_taken)
end
structure KNames (K : Frag) : Prop where
  ne : nsIn K mainGlobals "enumerate" = some none
  nl : nsIn K mainGlobals "len" = some none
  nd : nsIn K mainGlobals "dict" = some none
  nli : nsIn K mainGlobals "list" = some none
  nz : nsIn K mainGlobals "zip" = some none
  ns : nsIn K mainGlobals "sorted" = some none
  dm : nsIn K mainGlobals "divmod" = some none
  nsu : nsIn K mainGlobals "super" = some none
  n_order : nsIn K mainGlobals "_law_order" = some (some (.ref 207))
  n_lists : nsIn K mainGlobals "_law_lists" = some (some (.ref 212))
  n_players : nsIn K mainGlobals "_law_players" = some (some (.ref 229))
  n_first : nsIn K mainGlobals "first_phase" = some (some (.ref 35))
  n_delete : nsIn K mainGlobals "_delete_pair" = some (some (.ref 28))
  n_left : nsIn K mainGlobals "_law_left" = some (some (.ref 234))
  n_pairings : nsIn K mainGlobals "_law_pairings" = some (some (.ref 217))
  n_stable : nsIn K mainGlobals "_law_is_stable" = some (some (.ref 224))
  n_locate : nsIn K mainGlobals "locate_all_or_nothing_cycle" = some (some (.ref 42))
  n_pairs : nsIn K mainGlobals "get_pairs_to_delete" = some (some (.ref 49))
  n_within : nsIn K mainGlobals "_law_is_within" = some (some (.ref 239))
  n_cycle : nsIn K mainGlobals "_law_is_cycle" = some (some (.ref 244))
  n_taken : nsIn K mainGlobals "_law_is_taken" = some (some (.ref 249))
  n_C : nsIn K mainGlobals "Player" = some (some (.ref 198))
  m_forget : findIn K (.ref 198) "_forget" = some (some (.ref 75))
  t_forget : typeIn K (.ref 75) = some (.type "function")
  m_fav : findIn K (.ref 198) "get_favourite" = some (some (.ref 180))
  t_fav : typeIn K (.ref 180) = some (.type "function")
  m_mat : findIn K (.ref 198) "_match" = some (some (.ref 166))
  t_mat : typeIn K (.ref 166) = some (.type "function")
  m_unm : findIn K (.ref 198) "_unmatch" = some (some (.ref 173))
  t_unm : typeIn K (.ref 173) = some (.type "function")
  m_succ : findIn K (.ref 198) "get_successors" = some (some (.ref 187))
  t_succ : typeIn K (.ref 187) = some (.type "function")
  m_setp : findIn K (.ref 198) "set_prefs" = some (some (.ref 94))
  t_setp : typeIn K (.ref 94) = some (.type "function")
structure KCls (K : Frag) : Prop where
  ga : findIn K (.ref 198) "__getattribute__" = some (some (.builtin "object.__getattribute__"))
  gat : findIn K (.ref 198) "__getattr__" = some none
  hd : hasDictIn K 198 = true
  sa : findIn K (.ref 198) "__setattr__" = some (some (.builtin "object.__setattr__"))
  po : plainOver K 198 = true
  f0 : findIn K (.ref 198) "name" = some none
  t0 : takerIn K 198 "name" = some none
  f1 : findIn K (.ref 198) "prefs" = some none
  t1 : takerIn K 198 "prefs" = some none
  f2 : findIn K (.ref 198) "matching" = some none
  t2 : takerIn K 198 "matching" = some none
  f3 : findIn K (.ref 198) "_pref_names" = some none
  t3 : takerIn K 198 "_pref_names" = some none
  f4 : findIn K (.ref 198) "_original_prefs" = some none
  t4 : takerIn K 198 "_original_prefs" = some none
  no : noGet K none = true
  eq : findIn K (.ref 198) "__eq__" = some (some (.builtin "object.__eq__"))
  ne : findIn K (.ref 198) "__ne__" = some (some (.builtin "object.__ne__"))
  sub : subIn K (.ref 198) (.type "object") = some true
theorem KCls.ok {K : Frag} (H : KCls K) : ClsOk K 198 := by
  refine ⟨H.ga, H.gat, H.hd, H.sa, H.po, ?_, H.eq, H.ne, H.sub⟩
  intro x hx
  simp only [attrNames, List.mem_cons, List.not_mem_nil, or_false] at hx
  rcases hx with rfl | rfl | rfl | rfl | rfl
  · exact ⟨⟨none, H.f0, H.no⟩, H.t0⟩
  · exact ⟨⟨none, H.f1, H.no⟩, H.t1⟩
  · exact ⟨⟨none, H.f2, H.no⟩, H.t2⟩
  · exact ⟨⟨none, H.f3, H.no⟩, H.t3⟩
  · exact ⟨⟨none, H.f4, H.no⟩, H.t4⟩
end RM
end
noncomputable section
namespace RM
def cellQ (K : Frag) (a : Addr) : Option (Option Value) := match K.lookup a with
  | some ⟨_, _, .cell v, _⟩ => some v
  | _ => none
theorem cellAt_of {K : Frag} {h : Heap} (X : K.In h) {a : Addr} {v : Option Value} (e : cellQ K a = some v) : h.IsCell a v := by
  unfold cellQ at e
  split at e
  · rename_i ho; cases e; exact ⟨_, X _ _ ho, rfl⟩
  · cases e
def fileQ (K : Frag) (cd : Addr) : Option (Str × Tok) := match K.lookup cd with
  | some ⟨_, _, .fields vs, _⟩ => (match vs[2]? with | some (Value.str q t) => some (q, t) | _ => none)
  | _ => none
theorem file_of {K : Frag} {h : Heap} (X : K.In h) {cd : Addr} {q : Str × Tok} (e : fileQ K cd = some q) : ∃ ob vs, h.get? cd = some ob ∧ ob.data = .fields vs ∧ vs[2]? = some (.str q.1 q.2) := by
  unfold fileQ at e
  split at e
  · rename_i c d vs sl ho
    split at e
    · rename_i q' t hv
      cases e
      exact ⟨_, vs, X _ _ ho, rfl, hv⟩
    · cases e
  · cases e
theorem head_of {α : Type} {l : List α} {d : α} (e : l.isEmpty = false) : l.head? = some (l.headD d) := by
  cases l with
  | nil => cases e
  | cons a l => rfl
def argHd (K : Frag) (a : Addr) := ((fnD K a).params.posonlyargs ++ (fnD K a).params.args)
structure KMake (K : Frag) : Prop where
  makes : makesIn K 198 = true
  init : findIn K (.ref 198) "__init__" = some (some (.ref 159))
  ty : typeIn K (.ref 159) = some (.type "function")
  keep : keepIn K (.ref 198) = true
  fn : fnIn K 159 = true
  body : (fnD K 159).body = .stmts (fdBody S_pinit)
  scope : (fnD K 159).scope = fdScope S_pinit
  code : (fnD K 159).code = .ref 158
  q : codeQ K 158 = some (fnD K 159).qualname
  g : (fnD K 159).globals = mainGlobals
  b : (fnD K 159).builtins = builtinsNs
  bind : ∀ v1 v2, bindArgs (fnD K 159) ⟨[v1, v2], []⟩ = pure [(("self" : Str), v1), (("name" : Str), v2)]
  args : (argHd K 159).isEmpty = false
  arg : ((argHd K 159).headD ⟨"", none, ⟨0, 0, 0, 0⟩⟩).arg = ("self" : Str)
  clo : (fnD K 159).closure = [(("__class__" : Str), 147)]
  cell : cellQ K 147 = some (some (.ref 198))
  file : fileQ K 158 = some (("/claim/cut.py" : Str), 378)
  cls : (clsIn K 198).isSome = true
  mro : mroIn K 198 (.ref 198) = some true
  opq : nsIn K cStatics "thirdparty.any" = some none
  sup : ks_superIn K 198 198 "__init__" = some (some (.ref 63))
  fnB : fnIn K 63 = true
  tyB : typeIn K (.ref 63) = some (.type "function")
structure KF (K : Frag) : Prop where
  fns : KFuns K
  nms : KNames K
  cls : KCls K
  mak : KMake K
abbrev kb (K : Frag) (w : World) (h : Heap) (os : OsState) (mg mb : Str → Option Value) : KB := { prog := PySem.Challenge.rw_au0004_01.row.prog, w := w, B0 := h, C := 198, os := os, mg := mg, mb := mb, K := K }
theorem main_file : ((PySem.Challenge.rw_au0004_01.row.prog.main.file : Str) == ("/claim/cut.py" : Str)) = true := by decide +kernel
theorem main_super : (PySem.Challenge.rw_au0004_01.row.prog.main.scope.names.lookup ("super" : Str)).isSome = false := by decide +kernel
section
variable {K : Frag} {w : World} {h : Heap} {os : OsState} {mg mb : Str → Option Value}
theorem kb_ok (H : KF K) (X : K.In h) (G : h.Ns mainGlobals mg) (B : h.Ns builtinsNs mb) (hb : ∀ x : Str, x ≠ "__name__" → mb x = bootBuiltins x) (hn : h.NoLimit) (hs : h.NoSeer) : KBok (kb K w h os mg mb) :=
  ⟨G, B, hb, hn, X, H.cls.ok, let ⟨mm, ⟨o, _, _, e, _⟩, _⟩ := hs.mods; ⟨o, e⟩⟩
theorem kb_f (X : K.In h) {a cd : Addr} {st : Stmt} (F : FnF K a cd st) : FnOk (kb K w h os mg mb) a st := FnF.ok (c := kb K w h os mg mb) X F
theorem kb_meth (X : K.In h) {x : Str} {a cd : Addr} {st : Stmt} (F : FnF K a cd st) (e : findIn K (.ref 198) x = some (some (.ref a))) (t : typeIn K (.ref a) = some (.type "function")) : MethAt (kb K w h os mg mb) x a :=
  ⟨e, t, (kb_f X F).isFn⟩
theorem kb_meths (H : KF K) (X : K.In h) : Nonempty (Meths (kb K w h os mg mb)) :=
  ⟨{ forget := 75, fav := 180, mat := 166, unm := 173, succ := 187
     f_forget := kb_f X H.fns.forget
     f_fav := kb_f X H.fns.fav
     f_mat := kb_f X H.fns.match
     f_unm := kb_f X H.fns.unmatch
     f_succ := kb_f X H.fns.succ
     m_forget := kb_meth X H.fns.forget H.nms.m_forget H.nms.t_forget
     m_fav := kb_meth X H.fns.fav H.nms.m_fav H.nms.t_fav
     m_mat := kb_meth X H.fns.match H.nms.m_mat H.nms.t_mat
     m_unm := kb_meth X H.fns.unmatch H.nms.m_unm H.nms.t_unm
     m_succ := kb_meth X H.fns.succ H.nms.m_succ H.nms.t_succ }⟩
theorem kb_pinit (H : KF K) (X : K.In h) (G : h.Ns mainGlobals mg) : PInit (kb K w h os mg mb) S_pinit 159 63 := by
  have M := H.mak
  obtain ⟨o, h1, h2, h3⟩ := fnD_at X M.fn
  obtain ⟨ob, vs, f1, f2, f3⟩ := file_of X M.file
  obtain ⟨cd, hcd⟩ := Option.isSome_iff_exists.mp M.cls
  refine ⟨⟨o, _, h2, h3, M.body, M.scope, ?_, M.g, M.b, M.bind, ?_⟩, ⟨cd, hcd⟩, M.mro, mg_none_of X G H.nms.nsu, main_super, M.opq, M.sup, M.fnB, M.tyB⟩
  · rw [M.code]
    exact codeRec_of X M.q
  · exact ⟨_, 147, 158, ob, vs, "/claim/cut.py", 378, head_of M.args, M.arg, M.clo, cellAt_of X M.cell, M.code, f1, f2, f3, main_file⟩
theorem kb_fn (X : K.In h) (G : h.Ns mainGlobals mg) {x : Str} {a cd : Addr} {st : Stmt} (F : FnF K a cd st) (e : nsIn K mainGlobals x = some (some (.ref a))) :
    ∃ a, FnOk (kb K w h os mg mb) a st ∧ (kb K w h os mg mb).mg x = some (.ref a) := ⟨a, kb_f X F, mg_of X G e⟩
theorem kb_fns (H : KF K) (X : K.In h) (G : h.Ns mainGlobals mg) : Fns (kb K w h os mg mb) where
  ne := mg_none_of X G H.nms.ne
  nl := mg_none_of X G H.nms.nl
  nd := mg_none_of X G H.nms.nd
  nli := mg_none_of X G H.nms.nli
  nz := mg_none_of X G H.nms.nz
  ns := mg_none_of X G H.nms.ns
  dm := mg_none_of X G H.nms.dm
  order := kb_fn X G H.fns.order H.nms.n_order
  lists := kb_fn X G H.fns.lists H.nms.n_lists
  players := kb_fn X G H.fns.players H.nms.n_players
  first := kb_fn X G H.fns.first H.nms.n_first
  delete := kb_fn X G H.fns.delete H.nms.n_delete
  meths := kb_meths H X
  left := kb_fn X G H.fns.left H.nms.n_left
  pairings := kb_fn X G H.fns.pairings H.nms.n_pairings
  stable := kb_fn X G H.fns.stable H.nms.n_stable
  locate := kb_fn X G H.fns.locate H.nms.n_locate
  pairs := kb_fn X G H.fns.pairs H.nms.n_pairs
  within := kb_fn X G H.fns.within H.nms.n_within
  cycle := kb_fn X G H.fns.cycle H.nms.n_cycle
  taken := kb_fn X G H.fns.taken H.nms.n_taken
  setp := ⟨94, kb_f X H.fns.setprefs, kb_meth X H.fns.setprefs H.nms.m_setp H.nms.t_setp⟩
  cls := ⟨159, 63, ⟨H.mak.makes, H.mak.init, H.mak.ty, H.mak.keep⟩, kb_pinit H X G, kb_f X H.fns.binit⟩
  gC := mg_of X G H.nms.n_C
end
end RM
end
noncomputable section
set_option maxRecDepth 100000
namespace RM
theorem law_sc : ScOk (fdScope S_law) = true := by decide +kernel
theorem law_cells : ∀ x, (x, NameKind.cell) ∈ (fdScope S_law).names → x = "lists" := by
  intro x hx
  have : (fdScope S_law).names.all (fun p => !(p.2 == .cell) || p.1 == "lists") = true := by decide +kernel
  have := List.all_eq_true.mp this _ hx
  simpa using this
theorem law_frees : ∀ x, (x, NameKind.free) ∉ (fdScope S_law).names := by
  intro x hx
  have : (fdScope S_law).names.all (fun p => !(p.2 == .free)) = true := by decide +kernel
  have := List.all_eq_true.mp this _ hx
  simp at this
theorem law_env {L fa : Addr} {cd : Value} {name : Str} : EnvSc (envOfC name (fdScope S_law) L fa cd) (fdScope S_law) := by
  have ok := law_sc
  simp only [ScOk, Bool.and_eq_true, decide_eq_true_eq, beq_iff_eq, Bool.not_eq_true', List.all_eq_true] at ok
  obtain ⟨⟨⟨⟨nd, kk⟩, gg⟩, co⟩, db⟩ := ok
  refine ⟨kk, gg, rfl, rfl, fun x h => h, fun x h => h, fun x h => .inl h, fun x h => h, fun x kd h => ?_, nd⟩
  exact db _ h
theorem law_join {w : World} {s₁ : Shared} {mg mb : Str → Option Value} {fa : Addr} {cd : Value} {name : Str} {h₁ : Heap} {tk : Nat} {m : Str → Option Value} {wc : Obj} {a : Addr} {items : List Value} {ns : List Int} {Q : Flow → Shared → Prop} {E : Value → Shared → Prop}
    {K : Frag} (KX : K.In s₁.heap) (KH : KF K) (G : s₁.heap.Ns mainGlobals mg) (B : s₁.heap.Ns builtinsNs mb) (hb : ∀ x : Str, x ≠ "__name__" → mb x = bootBuiltins x) (hn : s₁.heap.NoLimit) (hs : s₁.heap.NoSeer) (hg : s₁.gens = #[])
    (F : Fr s₁.heap s₁.heap.objs.size h₁ m) (hm : m "script" = some (.ref a)) (hl : s₁.heap.IsList a items.toArray) (hI : IntsAre items ns) (hlen : ns.length ≤ 63)
    (N : News s₁.heap s₁.heap.objs.size h₁ [(s₁.heap.objs.size + 1, wc)]) (hc : ∃ v, wc.data = .cell v)
    (hQ : ∀ s', (∀ b o, s₁.heap.get? b = some o → s'.heap.get? b = some o) → s'.gens = #[] → s'.os = s₁.os → (∃ m, s'.heap.Ns s₁.heap.objs.size m) → Q (.ret (.bool true)) s') :
    wpAny (model PySem.Challenge.rw_au0004_01.row.prog w) (callerA.deeper (envOfC name (fdScope S_law) s₁.heap.objs.size fa cd)) (execs (fdBody S_law) (envOfC name (fdScope S_law) s₁.heap.objs.size fa cd)) Q E { heap := h₁, gens := s₁.gens, drawn := s₁.drawn, toks := tk, os := s₁.os } := by
  have hsz : s₁.heap.get? s₁.heap.objs.size = none := get_none_of_ge (Nat.le_refl _)
  have hsz1 : s₁.heap.get? (s₁.heap.objs.size + 1) = none := get_none_of_ge (Nat.le_succ _)
  have hcells : (envOfC name (fdScope S_law) s₁.heap.objs.size fa cd).cells.lookup (("lists" : Str)) = some (s₁.heap.objs.size + 1) := by kernel_rfl
  have none8 : ∀ (i : Nat) (b : Bind), (wVs none none none none none none none none)[i]? = some (some b) → False := by
    intro i b h
    have := List.mem_of_getElem? h
    simp [wVs] at this
  refine law_all (c := kb K w s₁.heap s₁.os mg mb) (k := 0) (g := { φ := [], dx := [], fz := s₁.heap.get?, fx := fun _ => none }) (ns := ns) (a := a) (items := items.toArray) (kb_fns KH KX G) (by decide) (by simpa using hI) hlen ?_ law_env ?_ ⟨m, F.ns, hm⟩ hl fun s' K g o n => hQ s' K g o n
  · refine ⟨rfl, ?_, ?_, by decide, ⟨_, rfl⟩⟩
    · show callerA.depth + 1 ≤ 310; decide
    · show callerA.units + 3 ≤ 20; decide
  · refine ⟨⟨kb_ok KH KX G B hb hn hs, fun b o e => F.keep _ _ e, fun b o e => (by cases e), fun b o e => rfl, fun b o e => e, rfl, rfl, fun i r e => (by simp at e), List.nodup_nil, fun d h => (by cases h), hg, rfl⟩, ⟨⟨m, F.ns⟩, ⟨hsz, rfl, by simp⟩, fun x hx => ?_, fun x y cc hx hy e1 e2 => ?_, fun i b hi => (none8 i b hi).elim, fun i j b b' x y k1 k2 v hij hi => (none8 i b hi).elim⟩⟩
    · have := law_cells x hx
      subst this
      obtain ⟨v, hv⟩ := hc
      exact ⟨_, v, hcells, ⟨wc, (N (s₁.heap.objs.size + 1, wc) (by simp)).1, hv⟩, hsz1, rfl, by simp⟩
    · have h1 := law_cells x hx
      rcases hy with hy | hy
      · rw [h1, law_cells y hy]
      · exact absurd hy (law_frees y)
end RM
end
noncomputable section
set_option maxRecDepth 100000
namespace RM
noncomputable def fdArgs : Stmt → Arguments
  | .FunctionDef _ a .. => a
  | _ => default
noncomputable def ldr (q : Params) : Value := match (boot_o_3 q).data with
  | .dict es _ => ((es.toList[3]?).map (·.val)).getD .none
  | _ => .none
noncomputable def o_43 (q : Params) : Obj := { cls := Value.type "tuple", data := Data.seq #[] }
noncomputable def o_44 (q : Params) : Obj := { cls := Value.none, data := Data.fields #[] }
noncomputable def o_45 (q : Params) : Obj := { cls := Value.type "code", data := Data.fields #[Value.str (Str.ofString "<module>") 182, Value.str (Str.ofString "<module>") 183, Value.str (Str.ofString "/claim/cut.py") 184, Value.int 1 0, Value.int 0 0, Value.int 0 0, Value.int 0 0, Value.int 0 0, Value.ref 11, Value.bool false, Value.int 181 0, Value.ref 12, Value.none, Value.none, Value.none, Value.none, Value.int 185 0, Value.int 1 0, Value.str (Str.ofString "/claim/cut.py") 186] }
noncomputable def o_46 (q : Params) : Obj := { cls := Value.type "frame", slots := #[some (Value.ref 13), some (Value.ref 3), some (Value.ref 3), none, some (Value.str (Str.ofString "__main__") 164), none, some (Value.ref 0)] }
noncomputable def o_49 (q : Params) : Obj := { cls := Value.type "dict", data := Data.dict #[{ hash := PyData.keyHash q (Str.ofString "__name__"), key := Value.str (Str.ofString "__name__") 165, val := Value.str (Str.ofString "matching.base") 246 }, { hash := PyData.keyHash q (Str.ofString "__doc__"), key := Value.str (Str.ofString "__doc__") 166, val := Value.none }, { hash := PyData.keyHash q (Str.ofString "__package__"), key := Value.str (Str.ofString "__package__") 167, val := Value.none }, { hash := PyData.keyHash q (Str.ofString "__loader__"), key := Value.str (Str.ofString "__loader__") 168, val := ldr q }, { hash := PyData.keyHash q (Str.ofString "__spec__"), key := Value.str (Str.ofString "__spec__") 169, val := Value.none }, { hash := PyData.keyHash q (Str.ofString "__annotations__"), key := Value.str (Str.ofString "__annotations__") 170, val := Value.ref 6 }, { hash := PyData.keyHash q (Str.ofString "__builtins__"), key := Value.str (Str.ofString "__builtins__") 171, val := Value.ref 4 }, { hash := PyData.keyHash q (Str.ofString "__file__"), key := Value.str (Str.ofString "__file__") 173, val := Value.str (Str.ofString "/claim/cut.py") 172 }, { hash := PyData.keyHash q (Str.ofString "__cached__"), key := Value.str (Str.ofString "__cached__") 174, val := Value.none }, { hash := PyData.keyHash q (Str.ofString "_wall"), key := Value.str (Str.ofString "_wall") 193, val := Value.ref 21 }, { hash := PyData.keyHash q (Str.ofString "_delete_pair"), key := Value.str (Str.ofString "_delete_pair") 203, val := Value.ref 28 }, { hash := PyData.keyHash q (Str.ofString "first_phase"), key := Value.str (Str.ofString "first_phase") 217, val := Value.ref 35 }, { hash := PyData.keyHash q (Str.ofString "locate_all_or_nothing_cycle"), key := Value.str (Str.ofString "locate_all_or_nothing_cycle") 230, val := Value.ref 42 }, { hash := PyData.keyHash q (Str.ofString "get_pairs_to_delete"), key := Value.str (Str.ofString "get_pairs_to_delete") 245, val := Value.ref 49 }] 14 }
noncomputable def o_50 (q : Params) : Obj := { cls := Value.none, data := Data.fields #[Value.int 1 0, Value.int 0 0, Value.ref 20, Value.int 5 0, Value.int 0 0, Value.ref 27, Value.int 9 0, Value.int 0 0, Value.ref 34, Value.int 24 0, Value.int 0 0, Value.ref 41, Value.int 38 0, Value.int 0 0, Value.ref 48] }
noncomputable def o_51 (q : Params) : Obj := { cls := Value.type "tuple", data := Data.seq #[] }
noncomputable def o_52 (q : Params) : Obj := { cls := Value.none, data := Data.fields #[] }
noncomputable def o_53 (q : Params) : Obj := { cls := Value.type "tuple", data := Data.seq #[Value.str (Str.ofString "k") 190] }
noncomputable def o_54 (q : Params) : Obj := { cls := Value.type "tuple", data := Data.seq #[] }
noncomputable def o_55 (q : Params) : Obj := { cls := Value.none, data := Data.func { name := Str.ofString "_wall", qualname := Str.ofString "_wall", params := fdArgs (nthS 0 P), body := FuncBody.stmts (fdBody (nthS 0 P)), scope := fdScope (nthS 0 P), globals := 0, closure := [], defaults := Value.none, kwdefaults := Value.none } }
noncomputable def o_56 (q : Params) : Obj := { cls := Value.type "code", data := Data.fields #[Value.str (Str.ofString "_wall") 187, Value.str (Str.ofString "_wall") 188, Value.str (Str.ofString "/claim/cut.py") 189, Value.int 1 0, Value.int 1 0, Value.int 0 0, Value.int 0 0, Value.int 3 0, Value.ref 15, Value.bool true, Value.int 181 0, Value.ref 16, Value.none, Value.ref 17, Value.ref 18, Value.ref 19, Value.int 191 0, Value.int 1 0, Value.str (Str.ofString "/claim/cut.py") 192] }
noncomputable def o_57 (q : Params) : Obj := { cls := Value.type "function", data := Data.func { name := Str.ofString "_wall", qualname := Str.ofString "_wall", params := fdArgs (nthS 0 P), body := FuncBody.stmts (fdBody (nthS 0 P)), scope := fdScope (nthS 0 P), globals := 3, closure := [], defaults := Value.none, kwdefaults := Value.none, pyModule := Value.str (Str.ofString "__main__") 164, code := Value.ref 20 } }
noncomputable def o_58 (q : Params) : Obj := { cls := Value.type "tuple", data := Data.seq #[] }
noncomputable def o_59 (q : Params) : Obj := { cls := Value.none, data := Data.fields #[] }
noncomputable def o_60 (q : Params) : Obj := { cls := Value.type "tuple", data := Data.seq #[Value.str (Str.ofString "player") 199, Value.str (Str.ofString "other") 200] }
noncomputable def o_61 (q : Params) : Obj := { cls := Value.type "tuple", data := Data.seq #[] }
noncomputable def o_62 (q : Params) : Obj := { cls := Value.none, data := Data.func { name := Str.ofString "_delete_pair", qualname := Str.ofString "_delete_pair", params := fdArgs (nthS 2 P), body := FuncBody.stmts (fdBody (nthS 2 P)), scope := fdScope (nthS 2 P), globals := 0, closure := [], defaults := Value.none, kwdefaults := Value.none } }
noncomputable def o_63 (q : Params) : Obj := { cls := Value.type "code", data := Data.fields #[Value.str (Str.ofString "_delete_pair") 196, Value.str (Str.ofString "_delete_pair") 197, Value.str (Str.ofString "/claim/cut.py") 198, Value.int 5 0, Value.int 2 0, Value.int 0 0, Value.int 0 0, Value.int 3 0, Value.ref 22, Value.bool true, Value.int 181 0, Value.ref 23, Value.none, Value.ref 24, Value.ref 25, Value.ref 26, Value.int 201 0, Value.int 5 0, Value.str (Str.ofString "/claim/cut.py") 202] }
noncomputable def o_64 (q : Params) : Obj := { cls := Value.type "function", data := Data.func { name := Str.ofString "_delete_pair", qualname := Str.ofString "_delete_pair", params := fdArgs (nthS 2 P), body := FuncBody.stmts (fdBody (nthS 2 P)), scope := fdScope (nthS 2 P), globals := 3, closure := [], defaults := Value.none, kwdefaults := Value.none, pyModule := Value.str (Str.ofString "matching.algorithms.util") 194, code := Value.ref 27 } }
noncomputable def o_65 (q : Params) : Obj := { cls := Value.type "tuple", data := Data.seq #[] }
noncomputable def o_66 (q : Params) : Obj := { cls := Value.none, data := Data.fields #[] }
noncomputable def o_67 (q : Params) : Obj := { cls := Value.type "tuple", data := Data.seq #[Value.str (Str.ofString "players") 209, Value.str (Str.ofString "free_players") 210, Value.str (Str.ofString "player") 211, Value.str (Str.ofString "favourite") 212, Value.str (Str.ofString "current") 213, Value.str (Str.ofString "successor") 214] }
noncomputable def o_68 (q : Params) : Obj := { cls := Value.type "tuple", data := Data.seq #[] }
noncomputable def o_69 (q : Params) : Obj := { cls := Value.none, data := Data.func { name := Str.ofString "first_phase", qualname := Str.ofString "first_phase", params := fdArgs (nthS 4 P), body := FuncBody.stmts (fdBody (nthS 4 P)), scope := fdScope (nthS 4 P), globals := 0, closure := [], defaults := Value.none, kwdefaults := Value.none } }
noncomputable def o_70 (q : Params) : Obj := { cls := Value.type "code", data := Data.fields #[Value.str (Str.ofString "first_phase") 206, Value.str (Str.ofString "first_phase") 207, Value.str (Str.ofString "/claim/cut.py") 208, Value.int 9 0, Value.int 1 0, Value.int 0 0, Value.int 0 0, Value.int 3 0, Value.ref 29, Value.bool true, Value.int 181 0, Value.ref 30, Value.none, Value.ref 31, Value.ref 32, Value.ref 33, Value.int 215 0, Value.int 9 0, Value.str (Str.ofString "/claim/cut.py") 216] }
noncomputable def o_71 (q : Params) : Obj := { cls := Value.type "function", data := Data.func { name := Str.ofString "first_phase", qualname := Str.ofString "first_phase", params := fdArgs (nthS 4 P), body := FuncBody.stmts (fdBody (nthS 4 P)), scope := fdScope (nthS 4 P), globals := 3, closure := [], defaults := Value.none, kwdefaults := Value.none, pyModule := Value.str (Str.ofString "matching.algorithms.stable_roommates") 204, code := Value.ref 34 } }
noncomputable def o_72 (q : Params) : Obj := { cls := Value.type "tuple", data := Data.seq #[] }
noncomputable def o_73 (q : Params) : Obj := { cls := Value.none, data := Data.fields #[] }
noncomputable def o_74 (q : Params) : Obj := { cls := Value.type "tuple", data := Data.seq #[Value.str (Str.ofString "player") 221, Value.str (Str.ofString "lasts") 222, Value.str (Str.ofString "seconds") 223, Value.str (Str.ofString "second_best") 224, Value.str (Str.ofString "their_worst") 225, Value.str (Str.ofString "idx") 226, Value.str (Str.ofString "cycle") 227] }
noncomputable def o_75 (q : Params) : Obj := { cls := Value.type "tuple", data := Data.seq #[] }
noncomputable def o_76 (q : Params) : Obj := { cls := Value.none, data := Data.func { name := Str.ofString "locate_all_or_nothing_cycle", qualname := Str.ofString "locate_all_or_nothing_cycle", params := fdArgs (nthS 5 P), body := FuncBody.stmts (fdBody (nthS 5 P)), scope := fdScope (nthS 5 P), globals := 0, closure := [], defaults := Value.none, kwdefaults := Value.none } }
noncomputable def o_77 (q : Params) : Obj := { cls := Value.type "code", data := Data.fields #[Value.str (Str.ofString "locate_all_or_nothing_cycle") 218, Value.str (Str.ofString "locate_all_or_nothing_cycle") 219, Value.str (Str.ofString "/claim/cut.py") 220, Value.int 24 0, Value.int 1 0, Value.int 0 0, Value.int 0 0, Value.int 3 0, Value.ref 36, Value.bool true, Value.int 181 0, Value.ref 37, Value.none, Value.ref 38, Value.ref 39, Value.ref 40, Value.int 228 0, Value.int 24 0, Value.str (Str.ofString "/claim/cut.py") 229] }
noncomputable def o_78 (q : Params) : Obj := { cls := Value.type "function", data := Data.func { name := Str.ofString "locate_all_or_nothing_cycle", qualname := Str.ofString "locate_all_or_nothing_cycle", params := fdArgs (nthS 5 P), body := FuncBody.stmts (fdBody (nthS 5 P)), scope := fdScope (nthS 5 P), globals := 3, closure := [], defaults := Value.none, kwdefaults := Value.none, pyModule := Value.str (Str.ofString "matching.algorithms.stable_roommates") 204, code := Value.ref 41 } }
noncomputable def o_79 (q : Params) : Obj := { cls := Value.type "tuple", data := Data.seq #[] }
noncomputable def o_80 (q : Params) : Obj := { cls := Value.none, data := Data.fields #[] }
noncomputable def o_81 (q : Params) : Obj := { cls := Value.type "tuple", data := Data.seq #[Value.str (Str.ofString "cycle") 234, Value.str (Str.ofString "pairs") 235, Value.str (Str.ofString "i") 236, Value.str (Str.ofString "_") 237, Value.str (Str.ofString "right") 238, Value.str (Str.ofString "left") 239, Value.str (Str.ofString "successors") 240, Value.str (Str.ofString "successor") 241, Value.str (Str.ofString "pair") 242] }
noncomputable def o_82 (q : Params) : Obj := { cls := Value.type "tuple", data := Data.seq #[] }
noncomputable def o_83 (q : Params) : Obj := { cls := Value.none, data := Data.func { name := Str.ofString "get_pairs_to_delete", qualname := Str.ofString "get_pairs_to_delete", params := fdArgs (nthS 6 P), body := FuncBody.stmts (fdBody (nthS 6 P)), scope := fdScope (nthS 6 P), globals := 0, closure := [], defaults := Value.none, kwdefaults := Value.none } }
noncomputable def o_84 (q : Params) : Obj := { cls := Value.type "code", data := Data.fields #[Value.str (Str.ofString "get_pairs_to_delete") 231, Value.str (Str.ofString "get_pairs_to_delete") 232, Value.str (Str.ofString "/claim/cut.py") 233, Value.int 38 0, Value.int 1 0, Value.int 0 0, Value.int 0 0, Value.int 3 0, Value.ref 43, Value.bool true, Value.int 181 0, Value.ref 44, Value.none, Value.ref 45, Value.ref 46, Value.ref 47, Value.int 243 0, Value.int 38 0, Value.str (Str.ofString "/claim/cut.py") 244] }
noncomputable def o_85 (q : Params) : Obj := { cls := Value.type "function", data := Data.func { name := Str.ofString "get_pairs_to_delete", qualname := Str.ofString "get_pairs_to_delete", params := fdArgs (nthS 6 P), body := FuncBody.stmts (fdBody (nthS 6 P)), scope := fdScope (nthS 6 P), globals := 3, closure := [], defaults := Value.none, kwdefaults := Value.none, pyModule := Value.str (Str.ofString "matching.algorithms.stable_roommates") 204, code := Value.ref 48 } }
noncomputable def o_86 (q : Params) : Obj := { cls := Value.type "dict", data := Data.dict #[{ hash := PyData.keyHash q (Str.ofString "__name__"), key := Value.str (Str.ofString "__name__") 165, val := Value.str (Str.ofString "matching.base") 246 }, { hash := PyData.keyHash q (Str.ofString "__doc__"), key := Value.str (Str.ofString "__doc__") 166, val := Value.none }, { hash := PyData.keyHash q (Str.ofString "__package__"), key := Value.str (Str.ofString "__package__") 167, val := Value.none }, { hash := PyData.keyHash q (Str.ofString "__loader__"), key := Value.str (Str.ofString "__loader__") 168, val := ldr q }, { hash := PyData.keyHash q (Str.ofString "__spec__"), key := Value.str (Str.ofString "__spec__") 169, val := Value.none }, { hash := PyData.keyHash q (Str.ofString "__annotations__"), key := Value.str (Str.ofString "__annotations__") 170, val := Value.ref 6 }, { hash := PyData.keyHash q (Str.ofString "__builtins__"), key := Value.str (Str.ofString "__builtins__") 171, val := Value.ref 4 }, { hash := PyData.keyHash q (Str.ofString "__file__"), key := Value.str (Str.ofString "__file__") 173, val := Value.str (Str.ofString "/claim/cut.py") 172 }, { hash := PyData.keyHash q (Str.ofString "__cached__"), key := Value.str (Str.ofString "__cached__") 174, val := Value.none }, { hash := PyData.keyHash q (Str.ofString "_wall"), key := Value.str (Str.ofString "_wall") 193, val := Value.ref 21 }, { hash := PyData.keyHash q (Str.ofString "_delete_pair"), key := Value.str (Str.ofString "_delete_pair") 203, val := Value.ref 28 }, { hash := PyData.keyHash q (Str.ofString "first_phase"), key := Value.str (Str.ofString "first_phase") 217, val := Value.ref 35 }, { hash := PyData.keyHash q (Str.ofString "locate_all_or_nothing_cycle"), key := Value.str (Str.ofString "locate_all_or_nothing_cycle") 230, val := Value.ref 42 }, { hash := PyData.keyHash q (Str.ofString "get_pairs_to_delete"), key := Value.str (Str.ofString "get_pairs_to_delete") 245, val := Value.ref 49 }, { hash := PyData.keyHash q (Str.ofString "BasePlayer"), key := Value.str (Str.ofString "BasePlayer") 361, val := Value.ref 139 }] 15 }
noncomputable def o_87 (q : Params) : Obj := { cls := Value.none, data := Data.fields #[Value.int 1 0, Value.int 0 0, Value.ref 20, Value.int 5 0, Value.int 0 0, Value.ref 27, Value.int 9 0, Value.int 0 0, Value.ref 34, Value.int 24 0, Value.int 0 0, Value.ref 41, Value.int 38 0, Value.int 0 0, Value.ref 48, Value.int 49 0, Value.int 0 0, Value.ref 55] }
noncomputable def o_88 (q : Params) : Obj := { cls := Value.type "tuple", data := Data.seq #[] }
noncomputable def o_89 (q : Params) : Obj := { cls := Value.type "builtin_function_or_method", data := Data.fields #[Value.builtin "type.__prepare__", Value.type "type"] }
noncomputable def o_90 (q : Params) : Obj := { cls := Value.type "dict", data := Data.dict #[{ hash := PyData.keyHash q (Str.ofString "__module__"), key := Value.str (Str.ofString "__module__") 255, val := Value.str (Str.ofString "matching.base") 246 }, { hash := PyData.keyHash q (Str.ofString "__qualname__"), key := Value.str (Str.ofString "__qualname__") 257, val := Value.str (Str.ofString "BasePlayer") 256 }, { hash := PyData.keyHash q (Str.ofString "__firstlineno__"), key := Value.str (Str.ofString "__firstlineno__") 259, val := Value.int 49 258 }, { hash := PyData.keyHash q (Str.ofString "__init__"), key := Value.str (Str.ofString "__init__") 267, val := Value.ref 63 }, { hash := PyData.keyHash q (Str.ofString "__repr__"), key := Value.str (Str.ofString "__repr__") 274, val := Value.ref 70 }, { hash := PyData.keyHash q (Str.ofString "_forget"), key := Value.str (Str.ofString "_forget") 280, val := Value.ref 75 }, { hash := PyData.keyHash q (Str.ofString "unmatched_message"), key := Value.str (Str.ofString "unmatched_message") 287, val := Value.ref 82 }, { hash := PyData.keyHash q (Str.ofString "not_in_preferences_message"), key := Value.str (Str.ofString "not_in_preferences_message") 295, val := Value.ref 89 }, { hash := PyData.keyHash q (Str.ofString "set_prefs"), key := Value.str (Str.ofString "set_prefs") 301, val := Value.ref 94 }, { hash := PyData.keyHash q (Str.ofString "prefers"), key := Value.str (Str.ofString "prefers") 311, val := Value.ref 101 }, { hash := PyData.keyHash q (Str.ofString "_match"), key := Value.str (Str.ofString "_match") 319, val := Value.ref 108 }, { hash := PyData.keyHash q (Str.ofString "_unmatch"), key := Value.str (Str.ofString "_unmatch") 327, val := Value.ref 115 }, { hash := PyData.keyHash q (Str.ofString "get_favourite"), key := Value.str (Str.ofString "get_favourite") 334, val := Value.ref 122 }, { hash := PyData.keyHash q (Str.ofString "get_successors"), key := Value.str (Str.ofString "get_successors") 341, val := Value.ref 129 }, { hash := PyData.keyHash q (Str.ofString "check_if_match_is_unacceptable"), key := Value.str (Str.ofString "check_if_match_is_unacceptable") 348, val := Value.ref 136 }, { hash := PyData.keyHash q (Str.ofString "__static_attributes__"), key := Value.str (Str.ofString "__static_attributes__") 354, val := Value.ref 137 }] 16 }
noncomputable def o_91 (q : Params) : Obj := { cls := Value.type "tuple", data := Data.seq #[] }
noncomputable def o_92 (q : Params) : Obj := { cls := Value.none, data := Data.fields #[Value.int 51 0, Value.int 4 0, Value.ref 62, Value.int 58 0, Value.int 4 0, Value.ref 69, Value.int 61 0, Value.int 4 0, Value.ref 74, Value.int 64 0, Value.int 4 0, Value.ref 81, Value.int 67 0, Value.int 4 0, Value.ref 88, Value.int 70 0, Value.int 4 0, Value.ref 93, Value.int 76 0, Value.int 4 0, Value.ref 100, Value.int 80 0, Value.int 4 0, Value.ref 107, Value.int 83 0, Value.int 4 0, Value.ref 114, Value.int 86 0, Value.int 4 0, Value.ref 121, Value.int 89 0, Value.int 4 0, Value.ref 128, Value.int 92 0, Value.int 4 0, Value.ref 135] }
noncomputable def o_93 (q : Params) : Obj := { cls := Value.type "code", data := Data.fields #[Value.str (Str.ofString "BasePlayer") 250, Value.str (Str.ofString "BasePlayer") 251, Value.str (Str.ofString "/claim/cut.py") 252, Value.int 49 0, Value.int 0 0, Value.int 0 0, Value.int 0 0, Value.int 0 0, Value.ref 53, Value.bool false, Value.int 181 0, Value.ref 54, Value.none, Value.none, Value.none, Value.none, Value.int 253 0, Value.int 49 0, Value.str (Str.ofString "/claim/cut.py") 254] }
noncomputable def o_94 (q : Params) : Obj := { cls := Value.type "frame", slots := #[some (Value.ref 55), some (Value.ref 3), some (Value.ref 52), none, some (Value.str (Str.ofString "matching.base") 246), none, some (Value.ref 0)] }
noncomputable def o_95 (q : Params) : Obj := { cls := Value.type "tuple", data := Data.seq #[] }
noncomputable def o_96 (q : Params) : Obj := { cls := Value.none, data := Data.fields #[] }
noncomputable def o_97 (q : Params) : Obj := { cls := Value.type "tuple", data := Data.seq #[Value.str (Str.ofString "self") 263, Value.str (Str.ofString "name") 264] }
noncomputable def o_98 (q : Params) : Obj := { cls := Value.type "tuple", data := Data.seq #[] }
noncomputable def o_99 (q : Params) : Obj := { cls := Value.none, data := Data.func { name := Str.ofString "__init__", qualname := Str.ofString "BasePlayer.__init__", params := fdArgs (nthS 0 (clsBody (nthS 8 P))), body := FuncBody.stmts (fdBody (nthS 0 (clsBody (nthS 8 P)))), scope := fdScope (nthS 0 (clsBody (nthS 8 P))), globals := 0, closure := [], defaults := Value.none, kwdefaults := Value.none } }
noncomputable def o_100 (q : Params) : Obj := { cls := Value.type "code", data := Data.fields #[Value.str (Str.ofString "__init__") 260, Value.str (Str.ofString "BasePlayer.__init__") 261, Value.str (Str.ofString "/claim/cut.py") 262, Value.int 51 0, Value.int 2 0, Value.int 0 0, Value.int 0 0, Value.int 3 0, Value.ref 57, Value.bool true, Value.int 181 0, Value.ref 58, Value.none, Value.ref 59, Value.ref 60, Value.ref 61, Value.int 265 0, Value.int 51 0, Value.str (Str.ofString "/claim/cut.py") 266] }
noncomputable def o_101 (q : Params) : Obj := { cls := Value.type "function", data := Data.func { name := Str.ofString "__init__", qualname := Str.ofString "BasePlayer.__init__", params := fdArgs (nthS 0 (clsBody (nthS 8 P))), body := FuncBody.stmts (fdBody (nthS 0 (clsBody (nthS 8 P)))), scope := fdScope (nthS 0 (clsBody (nthS 8 P))), globals := 3, closure := [], defaults := Value.none, kwdefaults := Value.none, pyModule := Value.str (Str.ofString "matching.base") 246, code := Value.ref 62 } }
noncomputable def o_102 (q : Params) : Obj := { cls := Value.type "tuple", data := Data.seq #[] }
noncomputable def o_103 (q : Params) : Obj := { cls := Value.none, data := Data.fields #[] }
noncomputable def o_104 (q : Params) : Obj := { cls := Value.type "tuple", data := Data.seq #[Value.str (Str.ofString "self") 271] }
noncomputable def o_105 (q : Params) : Obj := { cls := Value.type "tuple", data := Data.seq #[] }
noncomputable def o_106 (q : Params) : Obj := { cls := Value.none, data := Data.func { name := Str.ofString "__repr__", qualname := Str.ofString "BasePlayer.__repr__", params := fdArgs (nthS 1 (clsBody (nthS 8 P))), body := FuncBody.stmts (fdBody (nthS 1 (clsBody (nthS 8 P)))), scope := fdScope (nthS 1 (clsBody (nthS 8 P))), globals := 0, closure := [], defaults := Value.none, kwdefaults := Value.none } }
noncomputable def o_107 (q : Params) : Obj := { cls := Value.type "code", data := Data.fields #[Value.str (Str.ofString "__repr__") 268, Value.str (Str.ofString "BasePlayer.__repr__") 269, Value.str (Str.ofString "/claim/cut.py") 270, Value.int 58 0, Value.int 1 0, Value.int 0 0, Value.int 0 0, Value.int 3 0, Value.ref 64, Value.bool true, Value.int 181 0, Value.ref 65, Value.none, Value.ref 66, Value.ref 67, Value.ref 68, Value.int 272 0, Value.int 58 0, Value.str (Str.ofString "/claim/cut.py") 273] }
noncomputable def o_108 (q : Params) : Obj := { cls := Value.type "function", data := Data.func { name := Str.ofString "__repr__", qualname := Str.ofString "BasePlayer.__repr__", params := fdArgs (nthS 1 (clsBody (nthS 8 P))), body := FuncBody.stmts (fdBody (nthS 1 (clsBody (nthS 8 P)))), scope := fdScope (nthS 1 (clsBody (nthS 8 P))), globals := 3, closure := [], defaults := Value.none, kwdefaults := Value.none, pyModule := Value.str (Str.ofString "matching.base") 246, code := Value.ref 69 } }
noncomputable def o_109 (q : Params) : Obj := { cls := Value.type "tuple", data := Data.seq #[] }
noncomputable def o_110 (q : Params) : Obj := { cls := Value.none, data := Data.fields #[] }
noncomputable def o_111 (q : Params) : Obj := { cls := Value.none, data := Data.func { name := Str.ofString "_forget", qualname := Str.ofString "BasePlayer._forget", params := fdArgs (nthS 2 (clsBody (nthS 8 P))), body := FuncBody.stmts (fdBody (nthS 2 (clsBody (nthS 8 P)))), scope := fdScope (nthS 2 (clsBody (nthS 8 P))), globals := 0, closure := [], defaults := Value.none, kwdefaults := Value.none } }
noncomputable def o_112 (q : Params) : Obj := { cls := Value.type "code", data := Data.fields #[Value.str (Str.ofString "_forget") 275, Value.str (Str.ofString "BasePlayer._forget") 276, Value.str (Str.ofString "/claim/cut.py") 277, Value.int 61 0, Value.int 2 0, Value.int 0 0, Value.int 0 0, Value.int 3 0, Value.ref 71, Value.bool true, Value.int 181 0, Value.ref 72, Value.none, Value.none, Value.none, Value.ref 73, Value.int 278 0, Value.int 61 0, Value.str (Str.ofString "/claim/cut.py") 279] }
noncomputable def o_113 (q : Params) : Obj := { cls := Value.type "function", data := Data.func { name := Str.ofString "_forget", qualname := Str.ofString "BasePlayer._forget", params := fdArgs (nthS 2 (clsBody (nthS 8 P))), body := FuncBody.stmts (fdBody (nthS 2 (clsBody (nthS 8 P)))), scope := fdScope (nthS 2 (clsBody (nthS 8 P))), globals := 3, closure := [], defaults := Value.none, kwdefaults := Value.none, pyModule := Value.str (Str.ofString "matching.base") 246, code := Value.ref 74 } }
noncomputable def o_114 (q : Params) : Obj := { cls := Value.type "tuple", data := Data.seq #[] }
noncomputable def o_115 (q : Params) : Obj := { cls := Value.none, data := Data.fields #[] }
noncomputable def o_116 (q : Params) : Obj := { cls := Value.type "tuple", data := Data.seq #[Value.str (Str.ofString "self") 284] }
noncomputable def o_117 (q : Params) : Obj := { cls := Value.type "tuple", data := Data.seq #[] }
noncomputable def o_118 (q : Params) : Obj := { cls := Value.none, data := Data.func { name := Str.ofString "unmatched_message", qualname := Str.ofString "BasePlayer.unmatched_message", params := fdArgs (nthS 3 (clsBody (nthS 8 P))), body := FuncBody.stmts (fdBody (nthS 3 (clsBody (nthS 8 P)))), scope := fdScope (nthS 3 (clsBody (nthS 8 P))), globals := 0, closure := [], defaults := Value.none, kwdefaults := Value.none } }
noncomputable def o_119 (q : Params) : Obj := { cls := Value.type "code", data := Data.fields #[Value.str (Str.ofString "unmatched_message") 281, Value.str (Str.ofString "BasePlayer.unmatched_message") 282, Value.str (Str.ofString "/claim/cut.py") 283, Value.int 64 0, Value.int 1 0, Value.int 0 0, Value.int 0 0, Value.int 3 0, Value.ref 76, Value.bool true, Value.int 181 0, Value.ref 77, Value.none, Value.ref 78, Value.ref 79, Value.ref 80, Value.int 285 0, Value.int 64 0, Value.str (Str.ofString "/claim/cut.py") 286] }
noncomputable def o_120 (q : Params) : Obj := { cls := Value.type "function", data := Data.func { name := Str.ofString "unmatched_message", qualname := Str.ofString "BasePlayer.unmatched_message", params := fdArgs (nthS 3 (clsBody (nthS 8 P))), body := FuncBody.stmts (fdBody (nthS 3 (clsBody (nthS 8 P)))), scope := fdScope (nthS 3 (clsBody (nthS 8 P))), globals := 3, closure := [], defaults := Value.none, kwdefaults := Value.none, pyModule := Value.str (Str.ofString "matching.base") 246, code := Value.ref 81 } }
noncomputable def o_121 (q : Params) : Obj := { cls := Value.type "tuple", data := Data.seq #[] }
noncomputable def o_122 (q : Params) : Obj := { cls := Value.none, data := Data.fields #[] }
noncomputable def o_123 (q : Params) : Obj := { cls := Value.type "tuple", data := Data.seq #[Value.str (Str.ofString "self") 291, Value.str (Str.ofString "other") 292] }
noncomputable def o_124 (q : Params) : Obj := { cls := Value.type "tuple", data := Data.seq #[] }
noncomputable def o_125 (q : Params) : Obj := { cls := Value.none, data := Data.func { name := Str.ofString "not_in_preferences_message", qualname := Str.ofString "BasePlayer.not_in_preferences_message", params := fdArgs (nthS 4 (clsBody (nthS 8 P))), body := FuncBody.stmts (fdBody (nthS 4 (clsBody (nthS 8 P)))), scope := fdScope (nthS 4 (clsBody (nthS 8 P))), globals := 0, closure := [], defaults := Value.none, kwdefaults := Value.none } }
noncomputable def o_126 (q : Params) : Obj := { cls := Value.type "code", data := Data.fields #[Value.str (Str.ofString "not_in_preferences_message") 288, Value.str (Str.ofString "BasePlayer.not_in_preferences_message") 289, Value.str (Str.ofString "/claim/cut.py") 290, Value.int 67 0, Value.int 2 0, Value.int 0 0, Value.int 0 0, Value.int 3 0, Value.ref 83, Value.bool true, Value.int 181 0, Value.ref 84, Value.none, Value.ref 85, Value.ref 86, Value.ref 87, Value.int 293 0, Value.int 67 0, Value.str (Str.ofString "/claim/cut.py") 294] }
noncomputable def o_127 (q : Params) : Obj := { cls := Value.type "function", data := Data.func { name := Str.ofString "not_in_preferences_message", qualname := Str.ofString "BasePlayer.not_in_preferences_message", params := fdArgs (nthS 4 (clsBody (nthS 8 P))), body := FuncBody.stmts (fdBody (nthS 4 (clsBody (nthS 8 P)))), scope := fdScope (nthS 4 (clsBody (nthS 8 P))), globals := 3, closure := [], defaults := Value.none, kwdefaults := Value.none, pyModule := Value.str (Str.ofString "matching.base") 246, code := Value.ref 88 } }
noncomputable def o_128 (q : Params) : Obj := { cls := Value.type "tuple", data := Data.seq #[] }
noncomputable def o_129 (q : Params) : Obj := { cls := Value.none, data := Data.fields #[] }
noncomputable def o_130 (q : Params) : Obj := { cls := Value.none, data := Data.func { name := Str.ofString "set_prefs", qualname := Str.ofString "BasePlayer.set_prefs", params := fdArgs (nthS 5 (clsBody (nthS 8 P))), body := FuncBody.stmts (fdBody (nthS 5 (clsBody (nthS 8 P)))), scope := fdScope (nthS 5 (clsBody (nthS 8 P))), globals := 0, closure := [], defaults := Value.none, kwdefaults := Value.none } }
noncomputable def o_131 (q : Params) : Obj := { cls := Value.type "code", data := Data.fields #[Value.str (Str.ofString "set_prefs") 296, Value.str (Str.ofString "BasePlayer.set_prefs") 297, Value.str (Str.ofString "/claim/cut.py") 298, Value.int 70 0, Value.int 2 0, Value.int 0 0, Value.int 0 0, Value.int 3 0, Value.ref 90, Value.bool true, Value.int 181 0, Value.ref 91, Value.none, Value.none, Value.none, Value.ref 92, Value.int 299 0, Value.int 70 0, Value.str (Str.ofString "/claim/cut.py") 300] }
noncomputable def o_132 (q : Params) : Obj := { cls := Value.type "function", data := Data.func { name := Str.ofString "set_prefs", qualname := Str.ofString "BasePlayer.set_prefs", params := fdArgs (nthS 5 (clsBody (nthS 8 P))), body := FuncBody.stmts (fdBody (nthS 5 (clsBody (nthS 8 P)))), scope := fdScope (nthS 5 (clsBody (nthS 8 P))), globals := 3, closure := [], defaults := Value.none, kwdefaults := Value.none, pyModule := Value.str (Str.ofString "matching.base") 246, code := Value.ref 93 } }
noncomputable def o_133 (q : Params) : Obj := { cls := Value.type "tuple", data := Data.seq #[] }
noncomputable def o_134 (q : Params) : Obj := { cls := Value.none, data := Data.fields #[] }
noncomputable def o_135 (q : Params) : Obj := { cls := Value.type "tuple", data := Data.seq #[Value.str (Str.ofString "self") 305, Value.str (Str.ofString "player") 306, Value.str (Str.ofString "other") 307, Value.str (Str.ofString "prefs") 308] }
noncomputable def o_136 (q : Params) : Obj := { cls := Value.type "tuple", data := Data.seq #[] }
noncomputable def o_137 (q : Params) : Obj := { cls := Value.none, data := Data.func { name := Str.ofString "prefers", qualname := Str.ofString "BasePlayer.prefers", params := fdArgs (nthS 6 (clsBody (nthS 8 P))), body := FuncBody.stmts (fdBody (nthS 6 (clsBody (nthS 8 P)))), scope := fdScope (nthS 6 (clsBody (nthS 8 P))), globals := 0, closure := [], defaults := Value.none, kwdefaults := Value.none } }
noncomputable def o_138 (q : Params) : Obj := { cls := Value.type "code", data := Data.fields #[Value.str (Str.ofString "prefers") 302, Value.str (Str.ofString "BasePlayer.prefers") 303, Value.str (Str.ofString "/claim/cut.py") 304, Value.int 76 0, Value.int 3 0, Value.int 0 0, Value.int 0 0, Value.int 3 0, Value.ref 95, Value.bool true, Value.int 181 0, Value.ref 96, Value.none, Value.ref 97, Value.ref 98, Value.ref 99, Value.int 309 0, Value.int 76 0, Value.str (Str.ofString "/claim/cut.py") 310] }
noncomputable def o_139 (q : Params) : Obj := { cls := Value.type "function", data := Data.func { name := Str.ofString "prefers", qualname := Str.ofString "BasePlayer.prefers", params := fdArgs (nthS 6 (clsBody (nthS 8 P))), body := FuncBody.stmts (fdBody (nthS 6 (clsBody (nthS 8 P)))), scope := fdScope (nthS 6 (clsBody (nthS 8 P))), globals := 3, closure := [], defaults := Value.none, kwdefaults := Value.none, pyModule := Value.str (Str.ofString "matching.base") 246, code := Value.ref 100 } }
noncomputable def o_140 (q : Params) : Obj := { cls := Value.type "tuple", data := Data.seq #[] }
noncomputable def o_141 (q : Params) : Obj := { cls := Value.none, data := Data.fields #[] }
noncomputable def o_142 (q : Params) : Obj := { cls := Value.type "tuple", data := Data.seq #[Value.str (Str.ofString "self") 315, Value.str (Str.ofString "other") 316] }
noncomputable def o_143 (q : Params) : Obj := { cls := Value.type "tuple", data := Data.seq #[] }
noncomputable def o_144 (q : Params) : Obj := { cls := Value.none, data := Data.func { name := Str.ofString "_match", qualname := Str.ofString "BasePlayer._match", params := fdArgs (nthS 7 (clsBody (nthS 8 P))), body := FuncBody.stmts (fdBody (nthS 7 (clsBody (nthS 8 P)))), scope := fdScope (nthS 7 (clsBody (nthS 8 P))), globals := 0, closure := [], defaults := Value.none, kwdefaults := Value.none } }
noncomputable def o_145 (q : Params) : Obj := { cls := Value.type "code", data := Data.fields #[Value.str (Str.ofString "_match") 312, Value.str (Str.ofString "BasePlayer._match") 313, Value.str (Str.ofString "/claim/cut.py") 314, Value.int 80 0, Value.int 2 0, Value.int 0 0, Value.int 0 0, Value.int 3 0, Value.ref 102, Value.bool true, Value.int 181 0, Value.ref 103, Value.none, Value.ref 104, Value.ref 105, Value.ref 106, Value.int 317 0, Value.int 80 0, Value.str (Str.ofString "/claim/cut.py") 318] }
noncomputable def o_146 (q : Params) : Obj := { cls := Value.type "function", data := Data.func { name := Str.ofString "_match", qualname := Str.ofString "BasePlayer._match", params := fdArgs (nthS 7 (clsBody (nthS 8 P))), body := FuncBody.stmts (fdBody (nthS 7 (clsBody (nthS 8 P)))), scope := fdScope (nthS 7 (clsBody (nthS 8 P))), globals := 3, closure := [], defaults := Value.none, kwdefaults := Value.none, pyModule := Value.str (Str.ofString "matching.base") 246, code := Value.ref 107 } }
noncomputable def o_147 (q : Params) : Obj := { cls := Value.type "tuple", data := Data.seq #[] }
noncomputable def o_148 (q : Params) : Obj := { cls := Value.none, data := Data.fields #[] }
noncomputable def o_149 (q : Params) : Obj := { cls := Value.type "tuple", data := Data.seq #[Value.str (Str.ofString "self") 323, Value.str (Str.ofString "other") 324] }
noncomputable def o_150 (q : Params) : Obj := { cls := Value.type "tuple", data := Data.seq #[] }
noncomputable def o_151 (q : Params) : Obj := { cls := Value.none, data := Data.func { name := Str.ofString "_unmatch", qualname := Str.ofString "BasePlayer._unmatch", params := fdArgs (nthS 8 (clsBody (nthS 8 P))), body := FuncBody.stmts (fdBody (nthS 8 (clsBody (nthS 8 P)))), scope := fdScope (nthS 8 (clsBody (nthS 8 P))), globals := 0, closure := [], defaults := Value.none, kwdefaults := Value.none } }
noncomputable def o_152 (q : Params) : Obj := { cls := Value.type "code", data := Data.fields #[Value.str (Str.ofString "_unmatch") 320, Value.str (Str.ofString "BasePlayer._unmatch") 321, Value.str (Str.ofString "/claim/cut.py") 322, Value.int 83 0, Value.int 2 0, Value.int 0 0, Value.int 0 0, Value.int 3 0, Value.ref 109, Value.bool true, Value.int 181 0, Value.ref 110, Value.none, Value.ref 111, Value.ref 112, Value.ref 113, Value.int 325 0, Value.int 83 0, Value.str (Str.ofString "/claim/cut.py") 326] }
noncomputable def o_153 (q : Params) : Obj := { cls := Value.type "function", data := Data.func { name := Str.ofString "_unmatch", qualname := Str.ofString "BasePlayer._unmatch", params := fdArgs (nthS 8 (clsBody (nthS 8 P))), body := FuncBody.stmts (fdBody (nthS 8 (clsBody (nthS 8 P)))), scope := fdScope (nthS 8 (clsBody (nthS 8 P))), globals := 3, closure := [], defaults := Value.none, kwdefaults := Value.none, pyModule := Value.str (Str.ofString "matching.base") 246, code := Value.ref 114 } }
noncomputable def o_154 (q : Params) : Obj := { cls := Value.type "tuple", data := Data.seq #[] }
noncomputable def o_155 (q : Params) : Obj := { cls := Value.none, data := Data.fields #[] }
noncomputable def o_156 (q : Params) : Obj := { cls := Value.type "tuple", data := Data.seq #[Value.str (Str.ofString "self") 331] }
noncomputable def o_157 (q : Params) : Obj := { cls := Value.type "tuple", data := Data.seq #[] }
noncomputable def o_158 (q : Params) : Obj := { cls := Value.none, data := Data.func { name := Str.ofString "get_favourite", qualname := Str.ofString "BasePlayer.get_favourite", params := fdArgs (nthS 9 (clsBody (nthS 8 P))), body := FuncBody.stmts (fdBody (nthS 9 (clsBody (nthS 8 P)))), scope := fdScope (nthS 9 (clsBody (nthS 8 P))), globals := 0, closure := [], defaults := Value.none, kwdefaults := Value.none } }
noncomputable def o_159 (q : Params) : Obj := { cls := Value.type "code", data := Data.fields #[Value.str (Str.ofString "get_favourite") 328, Value.str (Str.ofString "BasePlayer.get_favourite") 329, Value.str (Str.ofString "/claim/cut.py") 330, Value.int 86 0, Value.int 1 0, Value.int 0 0, Value.int 0 0, Value.int 3 0, Value.ref 116, Value.bool true, Value.int 181 0, Value.ref 117, Value.none, Value.ref 118, Value.ref 119, Value.ref 120, Value.int 332 0, Value.int 86 0, Value.str (Str.ofString "/claim/cut.py") 333] }
noncomputable def o_160 (q : Params) : Obj := { cls := Value.type "function", data := Data.func { name := Str.ofString "get_favourite", qualname := Str.ofString "BasePlayer.get_favourite", params := fdArgs (nthS 9 (clsBody (nthS 8 P))), body := FuncBody.stmts (fdBody (nthS 9 (clsBody (nthS 8 P)))), scope := fdScope (nthS 9 (clsBody (nthS 8 P))), globals := 3, closure := [], defaults := Value.none, kwdefaults := Value.none, pyModule := Value.str (Str.ofString "matching.base") 246, code := Value.ref 121 } }
noncomputable def o_161 (q : Params) : Obj := { cls := Value.type "tuple", data := Data.seq #[] }
noncomputable def o_162 (q : Params) : Obj := { cls := Value.none, data := Data.fields #[] }
noncomputable def o_163 (q : Params) : Obj := { cls := Value.type "tuple", data := Data.seq #[Value.str (Str.ofString "self") 338] }
noncomputable def o_164 (q : Params) : Obj := { cls := Value.type "tuple", data := Data.seq #[] }
noncomputable def o_165 (q : Params) : Obj := { cls := Value.none, data := Data.func { name := Str.ofString "get_successors", qualname := Str.ofString "BasePlayer.get_successors", params := fdArgs (nthS 10 (clsBody (nthS 8 P))), body := FuncBody.stmts (fdBody (nthS 10 (clsBody (nthS 8 P)))), scope := fdScope (nthS 10 (clsBody (nthS 8 P))), globals := 0, closure := [], defaults := Value.none, kwdefaults := Value.none } }
noncomputable def o_166 (q : Params) : Obj := { cls := Value.type "code", data := Data.fields #[Value.str (Str.ofString "get_successors") 335, Value.str (Str.ofString "BasePlayer.get_successors") 336, Value.str (Str.ofString "/claim/cut.py") 337, Value.int 89 0, Value.int 1 0, Value.int 0 0, Value.int 0 0, Value.int 3 0, Value.ref 123, Value.bool true, Value.int 181 0, Value.ref 124, Value.none, Value.ref 125, Value.ref 126, Value.ref 127, Value.int 339 0, Value.int 89 0, Value.str (Str.ofString "/claim/cut.py") 340] }
noncomputable def o_167 (q : Params) : Obj := { cls := Value.type "function", data := Data.func { name := Str.ofString "get_successors", qualname := Str.ofString "BasePlayer.get_successors", params := fdArgs (nthS 10 (clsBody (nthS 8 P))), body := FuncBody.stmts (fdBody (nthS 10 (clsBody (nthS 8 P)))), scope := fdScope (nthS 10 (clsBody (nthS 8 P))), globals := 3, closure := [], defaults := Value.none, kwdefaults := Value.none, pyModule := Value.str (Str.ofString "matching.base") 246, code := Value.ref 128 } }
noncomputable def o_168 (q : Params) : Obj := { cls := Value.type "tuple", data := Data.seq #[] }
noncomputable def o_169 (q : Params) : Obj := { cls := Value.none, data := Data.fields #[] }
noncomputable def o_170 (q : Params) : Obj := { cls := Value.type "tuple", data := Data.seq #[Value.str (Str.ofString "self") 345] }
noncomputable def o_171 (q : Params) : Obj := { cls := Value.type "tuple", data := Data.seq #[] }
noncomputable def o_172 (q : Params) : Obj := { cls := Value.none, data := Data.func { name := Str.ofString "check_if_match_is_unacceptable", qualname := Str.ofString "BasePlayer.check_if_match_is_unacceptable", params := fdArgs (nthS 11 (clsBody (nthS 8 P))), body := FuncBody.stmts (fdBody (nthS 11 (clsBody (nthS 8 P)))), scope := fdScope (nthS 11 (clsBody (nthS 8 P))), globals := 0, closure := [], defaults := Value.none, kwdefaults := Value.none } }
noncomputable def o_173 (q : Params) : Obj := { cls := Value.type "code", data := Data.fields #[Value.str (Str.ofString "check_if_match_is_unacceptable") 342, Value.str (Str.ofString "BasePlayer.check_if_match_is_unacceptable") 343, Value.str (Str.ofString "/claim/cut.py") 344, Value.int 92 0, Value.int 1 0, Value.int 0 0, Value.int 0 0, Value.int 3 0, Value.ref 130, Value.bool true, Value.int 181 0, Value.ref 131, Value.none, Value.ref 132, Value.ref 133, Value.ref 134, Value.int 346 0, Value.int 92 0, Value.str (Str.ofString "/claim/cut.py") 347] }
noncomputable def o_174 (q : Params) : Obj := { cls := Value.type "function", data := Data.func { name := Str.ofString "check_if_match_is_unacceptable", qualname := Str.ofString "BasePlayer.check_if_match_is_unacceptable", params := fdArgs (nthS 11 (clsBody (nthS 8 P))), body := FuncBody.stmts (fdBody (nthS 11 (clsBody (nthS 8 P)))), scope := fdScope (nthS 11 (clsBody (nthS 8 P))), globals := 3, closure := [], defaults := Value.none, kwdefaults := Value.none, pyModule := Value.str (Str.ofString "matching.base") 246, code := Value.ref 135 } }
noncomputable def o_175 (q : Params) : Obj := { cls := Value.type "tuple", data := Data.seq #[Value.str (Str.ofString "_original_prefs") 349, Value.str (Str.ofString "_pref_names") 350, Value.str (Str.ofString "matching") 351, Value.str (Str.ofString "name") 352, Value.str (Str.ofString "prefs") 353] }
noncomputable def o_176 (q : Params) : Obj := { cls := Value.type "dict", data := Data.dict #[{ hash := PyData.keyHash q (Str.ofString "__module__"), key := Value.str (Str.ofString "__module__") 255, val := Value.str (Str.ofString "matching.base") 246 }, { hash := PyData.keyHash q (Str.ofString "__firstlineno__"), key := Value.str (Str.ofString "__firstlineno__") 259, val := Value.int 49 258 }, { hash := PyData.keyHash q (Str.ofString "__init__"), key := Value.str (Str.ofString "__init__") 267, val := Value.ref 63 }, { hash := PyData.keyHash q (Str.ofString "__repr__"), key := Value.str (Str.ofString "__repr__") 274, val := Value.ref 70 }, { hash := PyData.keyHash q (Str.ofString "_forget"), key := Value.str (Str.ofString "_forget") 280, val := Value.ref 75 }, { hash := PyData.keyHash q (Str.ofString "unmatched_message"), key := Value.str (Str.ofString "unmatched_message") 287, val := Value.ref 82 }, { hash := PyData.keyHash q (Str.ofString "not_in_preferences_message"), key := Value.str (Str.ofString "not_in_preferences_message") 295, val := Value.ref 89 }, { hash := PyData.keyHash q (Str.ofString "set_prefs"), key := Value.str (Str.ofString "set_prefs") 301, val := Value.ref 94 }, { hash := PyData.keyHash q (Str.ofString "prefers"), key := Value.str (Str.ofString "prefers") 311, val := Value.ref 101 }, { hash := PyData.keyHash q (Str.ofString "_match"), key := Value.str (Str.ofString "_match") 319, val := Value.ref 108 }, { hash := PyData.keyHash q (Str.ofString "_unmatch"), key := Value.str (Str.ofString "_unmatch") 327, val := Value.ref 115 }, { hash := PyData.keyHash q (Str.ofString "get_favourite"), key := Value.str (Str.ofString "get_favourite") 334, val := Value.ref 122 }, { hash := PyData.keyHash q (Str.ofString "get_successors"), key := Value.str (Str.ofString "get_successors") 341, val := Value.ref 129 }, { hash := PyData.keyHash q (Str.ofString "check_if_match_is_unacceptable"), key := Value.str (Str.ofString "check_if_match_is_unacceptable") 348, val := Value.ref 136 }, { hash := PyData.keyHash q (Str.ofString "__static_attributes__"), key := Value.str (Str.ofString "__static_attributes__") 354, val := Value.ref 137 }, { hash := PyData.keyHash q (Str.ofString "__dict__"), key := Value.str (Str.ofString "__dict__") 356, val := Value.ref 140 }, { hash := PyData.keyHash q (Str.ofString "__weakref__"), key := Value.str (Str.ofString "__weakref__") 358, val := Value.ref 141 }, { hash := PyData.keyHash q (Str.ofString "__doc__"), key := Value.str (Str.ofString "__doc__") 359, val := Value.none }] 4 }
noncomputable def o_177 (q : Params) : Obj := { cls := Value.type "type", data := Data.cls { name := Str.ofString "BasePlayer", bases := [Value.type "object"], mro := [Value.ref 139, Value.type "object"], ns := 138, qualname := Str.ofString "BasePlayer" }, slots := #[none, none, some (Value.str (Str.ofString "BasePlayer") 248), some (Value.str (Str.ofString "BasePlayer") 256), some (Value.builtin "object.__new__"), some (Value.bool true)] }
noncomputable def o_178 (q : Params) : Obj := { cls := Value.type "getset_descriptor", data := Data.fields #[Value.str (Str.ofString "__dict__") 355, Value.ref 139, Value.builtin "function.__dict__", Value.builtin "function.__dict__#set"] }
noncomputable def o_179 (q : Params) : Obj := { cls := Value.type "getset_descriptor", data := Data.fields #[Value.str (Str.ofString "__weakref__") 357, Value.ref 139, Value.builtin "ExceptionGroup.__weakref__", Value.none] }
noncomputable def o_180 (q : Params) : Obj := { cls := Value.type "super", data := Data.fields #[Value.ref 139, Value.ref 139, Value.ref 139] }
noncomputable def o_181 (q : Params) : Obj := { cls := Value.type "builtin_function_or_method", data := Data.fields #[Value.builtin "object.__init_subclass__", Value.ref 139] }
noncomputable def o_182 (q : Params) : Obj := { cls := Value.type "dict", data := Data.dict #[{ hash := PyData.keyHash q (Str.ofString "__name__"), key := Value.str (Str.ofString "__name__") 165, val := Value.str (Str.ofString "matching.players.player") 362 }, { hash := PyData.keyHash q (Str.ofString "__doc__"), key := Value.str (Str.ofString "__doc__") 166, val := Value.none }, { hash := PyData.keyHash q (Str.ofString "__package__"), key := Value.str (Str.ofString "__package__") 167, val := Value.none }, { hash := PyData.keyHash q (Str.ofString "__loader__"), key := Value.str (Str.ofString "__loader__") 168, val := ldr q }, { hash := PyData.keyHash q (Str.ofString "__spec__"), key := Value.str (Str.ofString "__spec__") 169, val := Value.none }, { hash := PyData.keyHash q (Str.ofString "__annotations__"), key := Value.str (Str.ofString "__annotations__") 170, val := Value.ref 6 }, { hash := PyData.keyHash q (Str.ofString "__builtins__"), key := Value.str (Str.ofString "__builtins__") 171, val := Value.ref 4 }, { hash := PyData.keyHash q (Str.ofString "__file__"), key := Value.str (Str.ofString "__file__") 173, val := Value.str (Str.ofString "/claim/cut.py") 172 }, { hash := PyData.keyHash q (Str.ofString "__cached__"), key := Value.str (Str.ofString "__cached__") 174, val := Value.none }, { hash := PyData.keyHash q (Str.ofString "_wall"), key := Value.str (Str.ofString "_wall") 193, val := Value.ref 21 }, { hash := PyData.keyHash q (Str.ofString "_delete_pair"), key := Value.str (Str.ofString "_delete_pair") 203, val := Value.ref 28 }, { hash := PyData.keyHash q (Str.ofString "first_phase"), key := Value.str (Str.ofString "first_phase") 217, val := Value.ref 35 }, { hash := PyData.keyHash q (Str.ofString "locate_all_or_nothing_cycle"), key := Value.str (Str.ofString "locate_all_or_nothing_cycle") 230, val := Value.ref 42 }, { hash := PyData.keyHash q (Str.ofString "get_pairs_to_delete"), key := Value.str (Str.ofString "get_pairs_to_delete") 245, val := Value.ref 49 }, { hash := PyData.keyHash q (Str.ofString "BasePlayer"), key := Value.str (Str.ofString "BasePlayer") 361, val := Value.ref 139 }] 15 }
noncomputable def o_184 (q : Params) : Obj := { cls := Value.type "dict", data := Data.dict #[{ hash := PyData.keyHash q (Str.ofString "__name__"), key := Value.str (Str.ofString "__name__") 165, val := Value.str (Str.ofString "matching.players.player") 362 }, { hash := PyData.keyHash q (Str.ofString "__doc__"), key := Value.str (Str.ofString "__doc__") 166, val := Value.none }, { hash := PyData.keyHash q (Str.ofString "__package__"), key := Value.str (Str.ofString "__package__") 167, val := Value.none }, { hash := PyData.keyHash q (Str.ofString "__loader__"), key := Value.str (Str.ofString "__loader__") 168, val := ldr q }, { hash := PyData.keyHash q (Str.ofString "__spec__"), key := Value.str (Str.ofString "__spec__") 169, val := Value.none }, { hash := PyData.keyHash q (Str.ofString "__annotations__"), key := Value.str (Str.ofString "__annotations__") 170, val := Value.ref 6 }, { hash := PyData.keyHash q (Str.ofString "__builtins__"), key := Value.str (Str.ofString "__builtins__") 171, val := Value.ref 4 }, { hash := PyData.keyHash q (Str.ofString "__file__"), key := Value.str (Str.ofString "__file__") 173, val := Value.str (Str.ofString "/claim/cut.py") 172 }, { hash := PyData.keyHash q (Str.ofString "__cached__"), key := Value.str (Str.ofString "__cached__") 174, val := Value.none }, { hash := PyData.keyHash q (Str.ofString "_wall"), key := Value.str (Str.ofString "_wall") 193, val := Value.ref 21 }, { hash := PyData.keyHash q (Str.ofString "_delete_pair"), key := Value.str (Str.ofString "_delete_pair") 203, val := Value.ref 28 }, { hash := PyData.keyHash q (Str.ofString "first_phase"), key := Value.str (Str.ofString "first_phase") 217, val := Value.ref 35 }, { hash := PyData.keyHash q (Str.ofString "locate_all_or_nothing_cycle"), key := Value.str (Str.ofString "locate_all_or_nothing_cycle") 230, val := Value.ref 42 }, { hash := PyData.keyHash q (Str.ofString "get_pairs_to_delete"), key := Value.str (Str.ofString "get_pairs_to_delete") 245, val := Value.ref 49 }, { hash := PyData.keyHash q (Str.ofString "BasePlayer"), key := Value.str (Str.ofString "BasePlayer") 361, val := Value.ref 139 }, { hash := PyData.keyHash q (Str.ofString "Player"), key := Value.str (Str.ofString "Player") 428, val := Value.ref 198 }] 16 }
noncomputable def o_185 (q : Params) : Obj := { cls := Value.none, data := Data.fields #[Value.int 1 0, Value.int 0 0, Value.ref 20, Value.int 5 0, Value.int 0 0, Value.ref 27, Value.int 9 0, Value.int 0 0, Value.ref 34, Value.int 24 0, Value.int 0 0, Value.ref 41, Value.int 38 0, Value.int 0 0, Value.ref 48, Value.int 49 0, Value.int 0 0, Value.ref 55, Value.int 95 0, Value.int 0 0, Value.ref 150] }
noncomputable def o_186 (q : Params) : Obj := { cls := Value.type "type", data := Data.cls { name := Str.ofString "BasePlayer", bases := [Value.type "object"], mro := [Value.ref 139, Value.type "object"], ns := 138, qualname := Str.ofString "BasePlayer", subclasses := [Value.ref 198] }, slots := #[none, none, some (Value.str (Str.ofString "BasePlayer") 248), some (Value.str (Str.ofString "BasePlayer") 256), some (Value.builtin "object.__new__"), some (Value.bool true)] }
noncomputable def o_187 (q : Params) : Obj := { cls := Value.type "tuple", data := Data.seq #[Value.ref 139] }
noncomputable def o_188 (q : Params) : Obj := { cls := Value.type "builtin_function_or_method", data := Data.fields #[Value.builtin "type.__prepare__", Value.type "type"] }
noncomputable def o_189 (q : Params) : Obj := { cls := Value.type "dict", data := Data.dict #[{ hash := PyData.keyHash q (Str.ofString "__module__"), key := Value.str (Str.ofString "__module__") 371, val := Value.str (Str.ofString "matching.players.player") 362 }, { hash := PyData.keyHash q (Str.ofString "__qualname__"), key := Value.str (Str.ofString "__qualname__") 373, val := Value.str (Str.ofString "Player") 372 }, { hash := PyData.keyHash q (Str.ofString "__firstlineno__"), key := Value.str (Str.ofString "__firstlineno__") 375, val := Value.int 95 374 }, { hash := PyData.keyHash q (Str.ofString "__init__"), key := Value.str (Str.ofString "__init__") 384, val := Value.ref 159 }, { hash := PyData.keyHash q (Str.ofString "_match"), key := Value.str (Str.ofString "_match") 392, val := Value.ref 166 }, { hash := PyData.keyHash q (Str.ofString "_unmatch"), key := Value.str (Str.ofString "_unmatch") 399, val := Value.ref 173 }, { hash := PyData.keyHash q (Str.ofString "get_favourite"), key := Value.str (Str.ofString "get_favourite") 406, val := Value.ref 180 }, { hash := PyData.keyHash q (Str.ofString "get_successors"), key := Value.str (Str.ofString "get_successors") 414, val := Value.ref 187 }, { hash := PyData.keyHash q (Str.ofString "check_if_match_is_unacceptable"), key := Value.str (Str.ofString "check_if_match_is_unacceptable") 422, val := Value.ref 195 }, { hash := PyData.keyHash q (Str.ofString "__static_attributes__"), key := Value.str (Str.ofString "__static_attributes__") 424, val := Value.ref 196 }, { hash := PyData.keyHash q (Str.ofString "__classcell__"), key := Value.str (Str.ofString "__classcell__") 425, val := Value.ref 147 }] 11 }
noncomputable def o_190 (q : Params) : Obj := { cls := Value.type "cell", data := Data.cell (some (Value.ref 198)) }
noncomputable def o_191 (q : Params) : Obj := { cls := Value.type "tuple", data := Data.seq #[] }
noncomputable def o_192 (q : Params) : Obj := { cls := Value.none, data := Data.fields #[Value.int 97 0, Value.int 4 0, Value.ref 158, Value.int 100 0, Value.int 4 0, Value.ref 165, Value.int 103 0, Value.int 4 0, Value.ref 172, Value.int 106 0, Value.int 4 0, Value.ref 179, Value.int 109 0, Value.int 4 0, Value.ref 186, Value.int 113 0, Value.int 4 0, Value.ref 194] }
noncomputable def o_193 (q : Params) : Obj := { cls := Value.type "code", data := Data.fields #[Value.str (Str.ofString "Player") 366, Value.str (Str.ofString "Player") 367, Value.str (Str.ofString "/claim/cut.py") 368, Value.int 95 0, Value.int 0 0, Value.int 0 0, Value.int 0 0, Value.int 0 0, Value.ref 148, Value.bool false, Value.int 181 0, Value.ref 149, Value.none, Value.none, Value.none, Value.none, Value.int 369 0, Value.int 95 0, Value.str (Str.ofString "/claim/cut.py") 370] }
noncomputable def o_194 (q : Params) : Obj := { cls := Value.type "frame", slots := #[some (Value.ref 150), some (Value.ref 3), some (Value.ref 146), none, some (Value.str (Str.ofString "matching.players.player") 362), none, some (Value.ref 0)] }
noncomputable def o_195 (q : Params) : Obj := { cls := Value.type "tuple", data := Data.seq #[Value.ref 147] }
noncomputable def o_196 (q : Params) : Obj := { cls := Value.type "tuple", data := Data.seq #[Value.str (Str.ofString "__class__") 379] }
noncomputable def o_197 (q : Params) : Obj := { cls := Value.none, data := Data.fields #[] }
noncomputable def o_198 (q : Params) : Obj := { cls := Value.type "tuple", data := Data.seq #[Value.str (Str.ofString "self") 380, Value.str (Str.ofString "name") 381] }
noncomputable def o_199 (q : Params) : Obj := { cls := Value.type "tuple", data := Data.seq #[] }
noncomputable def o_200 (q : Params) : Obj := { cls := Value.none, data := Data.func { name := Str.ofString "__init__", qualname := Str.ofString "Player.__init__", params := fdArgs (nthS 0 (clsBody (nthS 10 P))), body := FuncBody.stmts (fdBody (nthS 0 (clsBody (nthS 10 P)))), scope := fdScope (nthS 0 (clsBody (nthS 10 P))), globals := 0, closure := [], defaults := Value.none, kwdefaults := Value.none } }
noncomputable def o_201 (q : Params) : Obj := { cls := Value.type "code", data := Data.fields #[Value.str (Str.ofString "__init__") 376, Value.str (Str.ofString "Player.__init__") 377, Value.str (Str.ofString "/claim/cut.py") 378, Value.int 97 0, Value.int 2 0, Value.int 0 0, Value.int 0 0, Value.int 3 0, Value.ref 153, Value.bool true, Value.int 181 0, Value.ref 154, Value.none, Value.ref 155, Value.ref 156, Value.ref 157, Value.int 382 0, Value.int 97 0, Value.str (Str.ofString "/claim/cut.py") 383] }
noncomputable def o_202 (q : Params) : Obj := { cls := Value.type "function", data := Data.func { name := Str.ofString "__init__", qualname := Str.ofString "Player.__init__", params := fdArgs (nthS 0 (clsBody (nthS 10 P))), body := FuncBody.stmts (fdBody (nthS 0 (clsBody (nthS 10 P)))), scope := fdScope (nthS 0 (clsBody (nthS 10 P))), globals := 3, closure := [(Str.ofString "__class__", 147)], defaults := Value.none, kwdefaults := Value.none, pyModule := Value.str (Str.ofString "matching.players.player") 362, code := Value.ref 158, closureTuple := Value.ref 152 } }
noncomputable def o_203 (q : Params) : Obj := { cls := Value.type "tuple", data := Data.seq #[] }
noncomputable def o_204 (q : Params) : Obj := { cls := Value.none, data := Data.fields #[] }
noncomputable def o_205 (q : Params) : Obj := { cls := Value.type "tuple", data := Data.seq #[Value.str (Str.ofString "self") 388, Value.str (Str.ofString "other") 389] }
noncomputable def o_206 (q : Params) : Obj := { cls := Value.type "tuple", data := Data.seq #[] }
noncomputable def o_207 (q : Params) : Obj := { cls := Value.none, data := Data.func { name := Str.ofString "_match", qualname := Str.ofString "Player._match", params := fdArgs (nthS 1 (clsBody (nthS 10 P))), body := FuncBody.stmts (fdBody (nthS 1 (clsBody (nthS 10 P)))), scope := fdScope (nthS 1 (clsBody (nthS 10 P))), globals := 0, closure := [], defaults := Value.none, kwdefaults := Value.none } }
noncomputable def o_208 (q : Params) : Obj := { cls := Value.type "code", data := Data.fields #[Value.str (Str.ofString "_match") 385, Value.str (Str.ofString "Player._match") 386, Value.str (Str.ofString "/claim/cut.py") 387, Value.int 100 0, Value.int 2 0, Value.int 0 0, Value.int 0 0, Value.int 3 0, Value.ref 160, Value.bool true, Value.int 181 0, Value.ref 161, Value.none, Value.ref 162, Value.ref 163, Value.ref 164, Value.int 390 0, Value.int 100 0, Value.str (Str.ofString "/claim/cut.py") 391] }
noncomputable def o_209 (q : Params) : Obj := { cls := Value.type "function", data := Data.func { name := Str.ofString "_match", qualname := Str.ofString "Player._match", params := fdArgs (nthS 1 (clsBody (nthS 10 P))), body := FuncBody.stmts (fdBody (nthS 1 (clsBody (nthS 10 P)))), scope := fdScope (nthS 1 (clsBody (nthS 10 P))), globals := 3, closure := [], defaults := Value.none, kwdefaults := Value.none, pyModule := Value.str (Str.ofString "matching.players.player") 362, code := Value.ref 165 } }
noncomputable def o_210 (q : Params) : Obj := { cls := Value.type "tuple", data := Data.seq #[] }
noncomputable def o_211 (q : Params) : Obj := { cls := Value.none, data := Data.fields #[] }
noncomputable def o_212 (q : Params) : Obj := { cls := Value.type "tuple", data := Data.seq #[Value.str (Str.ofString "self") 396] }
noncomputable def o_213 (q : Params) : Obj := { cls := Value.type "tuple", data := Data.seq #[] }
noncomputable def o_214 (q : Params) : Obj := { cls := Value.none, data := Data.func { name := Str.ofString "_unmatch", qualname := Str.ofString "Player._unmatch", params := fdArgs (nthS 2 (clsBody (nthS 10 P))), body := FuncBody.stmts (fdBody (nthS 2 (clsBody (nthS 10 P)))), scope := fdScope (nthS 2 (clsBody (nthS 10 P))), globals := 0, closure := [], defaults := Value.none, kwdefaults := Value.none } }
noncomputable def o_215 (q : Params) : Obj := { cls := Value.type "code", data := Data.fields #[Value.str (Str.ofString "_unmatch") 393, Value.str (Str.ofString "Player._unmatch") 394, Value.str (Str.ofString "/claim/cut.py") 395, Value.int 103 0, Value.int 1 0, Value.int 0 0, Value.int 0 0, Value.int 3 0, Value.ref 167, Value.bool true, Value.int 181 0, Value.ref 168, Value.none, Value.ref 169, Value.ref 170, Value.ref 171, Value.int 397 0, Value.int 103 0, Value.str (Str.ofString "/claim/cut.py") 398] }
noncomputable def o_216 (q : Params) : Obj := { cls := Value.type "function", data := Data.func { name := Str.ofString "_unmatch", qualname := Str.ofString "Player._unmatch", params := fdArgs (nthS 2 (clsBody (nthS 10 P))), body := FuncBody.stmts (fdBody (nthS 2 (clsBody (nthS 10 P)))), scope := fdScope (nthS 2 (clsBody (nthS 10 P))), globals := 3, closure := [], defaults := Value.none, kwdefaults := Value.none, pyModule := Value.str (Str.ofString "matching.players.player") 362, code := Value.ref 172 } }
noncomputable def o_217 (q : Params) : Obj := { cls := Value.type "tuple", data := Data.seq #[] }
noncomputable def o_218 (q : Params) : Obj := { cls := Value.none, data := Data.fields #[] }
noncomputable def o_219 (q : Params) : Obj := { cls := Value.type "tuple", data := Data.seq #[Value.str (Str.ofString "self") 403] }
noncomputable def o_220 (q : Params) : Obj := { cls := Value.type "tuple", data := Data.seq #[] }
noncomputable def o_221 (q : Params) : Obj := { cls := Value.none, data := Data.func { name := Str.ofString "get_favourite", qualname := Str.ofString "Player.get_favourite", params := fdArgs (nthS 3 (clsBody (nthS 10 P))), body := FuncBody.stmts (fdBody (nthS 3 (clsBody (nthS 10 P)))), scope := fdScope (nthS 3 (clsBody (nthS 10 P))), globals := 0, closure := [], defaults := Value.none, kwdefaults := Value.none } }
noncomputable def o_222 (q : Params) : Obj := { cls := Value.type "code", data := Data.fields #[Value.str (Str.ofString "get_favourite") 400, Value.str (Str.ofString "Player.get_favourite") 401, Value.str (Str.ofString "/claim/cut.py") 402, Value.int 106 0, Value.int 1 0, Value.int 0 0, Value.int 0 0, Value.int 3 0, Value.ref 174, Value.bool true, Value.int 181 0, Value.ref 175, Value.none, Value.ref 176, Value.ref 177, Value.ref 178, Value.int 404 0, Value.int 106 0, Value.str (Str.ofString "/claim/cut.py") 405] }
noncomputable def o_223 (q : Params) : Obj := { cls := Value.type "function", data := Data.func { name := Str.ofString "get_favourite", qualname := Str.ofString "Player.get_favourite", params := fdArgs (nthS 3 (clsBody (nthS 10 P))), body := FuncBody.stmts (fdBody (nthS 3 (clsBody (nthS 10 P)))), scope := fdScope (nthS 3 (clsBody (nthS 10 P))), globals := 3, closure := [], defaults := Value.none, kwdefaults := Value.none, pyModule := Value.str (Str.ofString "matching.players.player") 362, code := Value.ref 179 } }
noncomputable def o_224 (q : Params) : Obj := { cls := Value.type "tuple", data := Data.seq #[] }
noncomputable def o_225 (q : Params) : Obj := { cls := Value.none, data := Data.fields #[] }
noncomputable def o_226 (q : Params) : Obj := { cls := Value.type "tuple", data := Data.seq #[Value.str (Str.ofString "self") 410, Value.str (Str.ofString "idx") 411] }
noncomputable def o_227 (q : Params) : Obj := { cls := Value.type "tuple", data := Data.seq #[] }
noncomputable def o_228 (q : Params) : Obj := { cls := Value.none, data := Data.func { name := Str.ofString "get_successors", qualname := Str.ofString "Player.get_successors", params := fdArgs (nthS 4 (clsBody (nthS 10 P))), body := FuncBody.stmts (fdBody (nthS 4 (clsBody (nthS 10 P)))), scope := fdScope (nthS 4 (clsBody (nthS 10 P))), globals := 0, closure := [], defaults := Value.none, kwdefaults := Value.none } }
noncomputable def o_229 (q : Params) : Obj := { cls := Value.type "code", data := Data.fields #[Value.str (Str.ofString "get_successors") 407, Value.str (Str.ofString "Player.get_successors") 408, Value.str (Str.ofString "/claim/cut.py") 409, Value.int 109 0, Value.int 1 0, Value.int 0 0, Value.int 0 0, Value.int 3 0, Value.ref 181, Value.bool true, Value.int 181 0, Value.ref 182, Value.none, Value.ref 183, Value.ref 184, Value.ref 185, Value.int 412 0, Value.int 109 0, Value.str (Str.ofString "/claim/cut.py") 413] }
noncomputable def o_230 (q : Params) : Obj := { cls := Value.type "function", data := Data.func { name := Str.ofString "get_successors", qualname := Str.ofString "Player.get_successors", params := fdArgs (nthS 4 (clsBody (nthS 10 P))), body := FuncBody.stmts (fdBody (nthS 4 (clsBody (nthS 10 P)))), scope := fdScope (nthS 4 (clsBody (nthS 10 P))), globals := 3, closure := [], defaults := Value.none, kwdefaults := Value.none, pyModule := Value.str (Str.ofString "matching.players.player") 362, code := Value.ref 186 } }
noncomputable def o_231 (q : Params) : Obj := { cls := Value.type "tuple", data := Data.seq #[Value.bool false] }
noncomputable def o_232 (q : Params) : Obj := { cls := Value.type "tuple", data := Data.seq #[] }
noncomputable def o_233 (q : Params) : Obj := { cls := Value.none, data := Data.fields #[] }
noncomputable def o_234 (q : Params) : Obj := { cls := Value.type "tuple", data := Data.seq #[Value.str (Str.ofString "self") 418, Value.str (Str.ofString "unmatched_okay") 419] }
noncomputable def o_235 (q : Params) : Obj := { cls := Value.type "tuple", data := Data.seq #[] }
noncomputable def o_236 (q : Params) : Obj := { cls := Value.none, data := Data.func { name := Str.ofString "check_if_match_is_unacceptable", qualname := Str.ofString "Player.check_if_match_is_unacceptable", params := fdArgs (nthS 5 (clsBody (nthS 10 P))), body := FuncBody.stmts (fdBody (nthS 5 (clsBody (nthS 10 P)))), scope := fdScope (nthS 5 (clsBody (nthS 10 P))), globals := 0, closure := [], defaults := Value.none, kwdefaults := Value.none } }
noncomputable def o_237 (q : Params) : Obj := { cls := Value.type "code", data := Data.fields #[Value.str (Str.ofString "check_if_match_is_unacceptable") 415, Value.str (Str.ofString "Player.check_if_match_is_unacceptable") 416, Value.str (Str.ofString "/claim/cut.py") 417, Value.int 113 0, Value.int 2 0, Value.int 0 0, Value.int 0 0, Value.int 3 0, Value.ref 189, Value.bool true, Value.int 181 0, Value.ref 190, Value.none, Value.ref 191, Value.ref 192, Value.ref 193, Value.int 420 0, Value.int 113 0, Value.str (Str.ofString "/claim/cut.py") 421] }
noncomputable def o_238 (q : Params) : Obj := { cls := Value.type "function", data := Data.func { name := Str.ofString "check_if_match_is_unacceptable", qualname := Str.ofString "Player.check_if_match_is_unacceptable", params := fdArgs (nthS 5 (clsBody (nthS 10 P))), body := FuncBody.stmts (fdBody (nthS 5 (clsBody (nthS 10 P)))), scope := fdScope (nthS 5 (clsBody (nthS 10 P))), globals := 3, closure := [], defaults := Value.ref 188, kwdefaults := Value.none, pyModule := Value.str (Str.ofString "matching.players.player") 362, code := Value.ref 194 } }
noncomputable def o_239 (q : Params) : Obj := { cls := Value.type "tuple", data := Data.seq #[Value.str (Str.ofString "matching") 423] }
noncomputable def o_240 (q : Params) : Obj := { cls := Value.type "dict", data := Data.dict #[{ hash := PyData.keyHash q (Str.ofString "__module__"), key := Value.str (Str.ofString "__module__") 371, val := Value.str (Str.ofString "matching.players.player") 362 }, { hash := PyData.keyHash q (Str.ofString "__firstlineno__"), key := Value.str (Str.ofString "__firstlineno__") 375, val := Value.int 95 374 }, { hash := PyData.keyHash q (Str.ofString "__init__"), key := Value.str (Str.ofString "__init__") 384, val := Value.ref 159 }, { hash := PyData.keyHash q (Str.ofString "_match"), key := Value.str (Str.ofString "_match") 392, val := Value.ref 166 }, { hash := PyData.keyHash q (Str.ofString "_unmatch"), key := Value.str (Str.ofString "_unmatch") 399, val := Value.ref 173 }, { hash := PyData.keyHash q (Str.ofString "get_favourite"), key := Value.str (Str.ofString "get_favourite") 406, val := Value.ref 180 }, { hash := PyData.keyHash q (Str.ofString "get_successors"), key := Value.str (Str.ofString "get_successors") 414, val := Value.ref 187 }, { hash := PyData.keyHash q (Str.ofString "check_if_match_is_unacceptable"), key := Value.str (Str.ofString "check_if_match_is_unacceptable") 422, val := Value.ref 195 }, { hash := PyData.keyHash q (Str.ofString "__static_attributes__"), key := Value.str (Str.ofString "__static_attributes__") 424, val := Value.ref 196 }, { hash := PyData.keyHash q (Str.ofString "__doc__"), key := Value.str (Str.ofString "__doc__") 426, val := Value.none }] 3 }
noncomputable def o_241 (q : Params) : Obj := { cls := Value.type "type", data := Data.cls { name := Str.ofString "Player", bases := [Value.ref 139], mro := [Value.ref 198, Value.ref 139, Value.type "object"], ns := 197, qualname := Str.ofString "Player" }, slots := #[some (Value.ref 144), none, some (Value.str (Str.ofString "Player") 364), some (Value.str (Str.ofString "Player") 372), some (Value.builtin "object.__new__"), some (Value.bool true)] }
noncomputable def o_242 (q : Params) : Obj := { cls := Value.type "super", data := Data.fields #[Value.ref 198, Value.ref 198, Value.ref 198] }
noncomputable def o_243 (q : Params) : Obj := { cls := Value.type "builtin_function_or_method", data := Data.fields #[Value.builtin "object.__init_subclass__", Value.ref 198] }
noncomputable def o_244 (q : Params) : Obj := { cls := Value.type "dict", data := Data.dict #[{ hash := PyData.keyHash q (Str.ofString "__name__"), key := Value.str (Str.ofString "__name__") 165, val := Value.str (Str.ofString "law_au0004_01") 429 }, { hash := PyData.keyHash q (Str.ofString "__doc__"), key := Value.str (Str.ofString "__doc__") 166, val := Value.none }, { hash := PyData.keyHash q (Str.ofString "__package__"), key := Value.str (Str.ofString "__package__") 167, val := Value.none }, { hash := PyData.keyHash q (Str.ofString "__loader__"), key := Value.str (Str.ofString "__loader__") 168, val := ldr q }, { hash := PyData.keyHash q (Str.ofString "__spec__"), key := Value.str (Str.ofString "__spec__") 169, val := Value.none }, { hash := PyData.keyHash q (Str.ofString "__annotations__"), key := Value.str (Str.ofString "__annotations__") 170, val := Value.ref 6 }, { hash := PyData.keyHash q (Str.ofString "__builtins__"), key := Value.str (Str.ofString "__builtins__") 171, val := Value.ref 4 }, { hash := PyData.keyHash q (Str.ofString "__file__"), key := Value.str (Str.ofString "__file__") 173, val := Value.str (Str.ofString "/claim/cut.py") 172 }, { hash := PyData.keyHash q (Str.ofString "__cached__"), key := Value.str (Str.ofString "__cached__") 174, val := Value.none }, { hash := PyData.keyHash q (Str.ofString "_wall"), key := Value.str (Str.ofString "_wall") 193, val := Value.ref 21 }, { hash := PyData.keyHash q (Str.ofString "_delete_pair"), key := Value.str (Str.ofString "_delete_pair") 203, val := Value.ref 28 }, { hash := PyData.keyHash q (Str.ofString "first_phase"), key := Value.str (Str.ofString "first_phase") 217, val := Value.ref 35 }, { hash := PyData.keyHash q (Str.ofString "locate_all_or_nothing_cycle"), key := Value.str (Str.ofString "locate_all_or_nothing_cycle") 230, val := Value.ref 42 }, { hash := PyData.keyHash q (Str.ofString "get_pairs_to_delete"), key := Value.str (Str.ofString "get_pairs_to_delete") 245, val := Value.ref 49 }, { hash := PyData.keyHash q (Str.ofString "BasePlayer"), key := Value.str (Str.ofString "BasePlayer") 361, val := Value.ref 139 }, { hash := PyData.keyHash q (Str.ofString "Player"), key := Value.str (Str.ofString "Player") 428, val := Value.ref 198 }, { hash := PyData.keyHash q (Str.ofString "_law_order"), key := Value.str (Str.ofString "_law_order") 441, val := Value.ref 207 }, { hash := PyData.keyHash q (Str.ofString "_law_lists"), key := Value.str (Str.ofString "_law_lists") 447, val := Value.ref 212 }, { hash := PyData.keyHash q (Str.ofString "_law_pairings"), key := Value.str (Str.ofString "_law_pairings") 453, val := Value.ref 217 }, { hash := PyData.keyHash q (Str.ofString "_law_is_stable"), key := Value.str (Str.ofString "_law_is_stable") 463, val := Value.ref 224 }, { hash := PyData.keyHash q (Str.ofString "_law_players"), key := Value.str (Str.ofString "_law_players") 469, val := Value.ref 229 }, { hash := PyData.keyHash q (Str.ofString "_law_left"), key := Value.str (Str.ofString "_law_left") 475, val := Value.ref 234 }, { hash := PyData.keyHash q (Str.ofString "_law_is_within"), key := Value.str (Str.ofString "_law_is_within") 481, val := Value.ref 239 }, { hash := PyData.keyHash q (Str.ofString "_law_is_cycle"), key := Value.str (Str.ofString "_law_is_cycle") 487, val := Value.ref 244 }, { hash := PyData.keyHash q (Str.ofString "_law_is_taken"), key := Value.str (Str.ofString "_law_is_taken") 493, val := Value.ref 249 }, { hash := PyData.keyHash q (Str.ofString "law"), key := Value.str (Str.ofString "law") 499, val := Value.ref 254 }] 26 }
noncomputable def o_245 (q : Params) : Obj := { cls := Value.none, data := Data.fields #[Value.int 1 0, Value.int 0 0, Value.ref 20, Value.int 5 0, Value.int 0 0, Value.ref 27, Value.int 9 0, Value.int 0 0, Value.ref 34, Value.int 24 0, Value.int 0 0, Value.ref 41, Value.int 38 0, Value.int 0 0, Value.ref 48, Value.int 49 0, Value.int 0 0, Value.ref 55, Value.int 95 0, Value.int 0 0, Value.ref 150, Value.int 116 0, Value.int 0 0, Value.ref 206, Value.int 122 0, Value.int 0 0, Value.ref 211, Value.int 129 0, Value.int 0 0, Value.ref 216, Value.int 138 0, Value.int 0 0, Value.ref 223, Value.int 144 0, Value.int 0 0, Value.ref 228, Value.int 149 0, Value.int 0 0, Value.ref 233, Value.int 151 0, Value.int 0 0, Value.ref 238, Value.int 153 0, Value.int 0 0, Value.ref 243, Value.int 162 0, Value.int 0 0, Value.ref 248, Value.int 182 0, Value.int 0 0, Value.ref 253] }
noncomputable def o_246 (q : Params) : Obj := { cls := Value.type "tuple", data := Data.seq #[] }
noncomputable def o_247 (q : Params) : Obj := { cls := Value.none, data := Data.fields #[] }
noncomputable def o_248 (q : Params) : Obj := { cls := Value.type "tuple", data := Data.seq #[Value.str (Str.ofString "items") 434, Value.str (Str.ofString "number") 435, Value.str (Str.ofString "left") 436, Value.str (Str.ofString "found") 437, Value.str (Str.ofString "at") 438] }
noncomputable def o_249 (q : Params) : Obj := { cls := Value.type "tuple", data := Data.seq #[] }
noncomputable def o_250 (q : Params) : Obj := { cls := Value.none, data := Data.func { name := Str.ofString "_law_order", qualname := Str.ofString "_law_order", params := fdArgs (nthS 12 P), body := FuncBody.stmts (fdBody (nthS 12 P)), scope := fdScope (nthS 12 P), globals := 0, closure := [], defaults := Value.none, kwdefaults := Value.none } }
noncomputable def o_251 (q : Params) : Obj := { cls := Value.type "code", data := Data.fields #[Value.str (Str.ofString "_law_order") 431, Value.str (Str.ofString "_law_order") 432, Value.str (Str.ofString "/claim/cut.py") 433, Value.int 116 0, Value.int 2 0, Value.int 0 0, Value.int 0 0, Value.int 3 0, Value.ref 201, Value.bool true, Value.int 181 0, Value.ref 202, Value.none, Value.ref 203, Value.ref 204, Value.ref 205, Value.int 439 0, Value.int 116 0, Value.str (Str.ofString "/claim/cut.py") 440] }
noncomputable def o_252 (q : Params) : Obj := { cls := Value.type "function", data := Data.func { name := Str.ofString "_law_order", qualname := Str.ofString "_law_order", params := fdArgs (nthS 12 P), body := FuncBody.stmts (fdBody (nthS 12 P)), scope := fdScope (nthS 12 P), globals := 3, closure := [], defaults := Value.none, kwdefaults := Value.none, pyModule := Value.str (Str.ofString "law_au0004_01") 429, code := Value.ref 206 } }
noncomputable def o_253 (q : Params) : Obj := { cls := Value.type "tuple", data := Data.seq #[] }
noncomputable def o_254 (q : Params) : Obj := { cls := Value.none, data := Data.fields #[] }
noncomputable def o_255 (q : Params) : Obj := { cls := Value.none, data := Data.func { name := Str.ofString "_law_lists", qualname := Str.ofString "_law_lists", params := fdArgs (nthS 13 P), body := FuncBody.stmts (fdBody (nthS 13 P)), scope := fdScope (nthS 13 P), globals := 0, closure := [], defaults := Value.none, kwdefaults := Value.none } }
noncomputable def o_256 (q : Params) : Obj := { cls := Value.type "code", data := Data.fields #[Value.str (Str.ofString "_law_lists") 442, Value.str (Str.ofString "_law_lists") 443, Value.str (Str.ofString "/claim/cut.py") 444, Value.int 122 0, Value.int 1 0, Value.int 0 0, Value.int 0 0, Value.int 3 0, Value.ref 208, Value.bool true, Value.int 181 0, Value.ref 209, Value.none, Value.none, Value.none, Value.ref 210, Value.int 445 0, Value.int 122 0, Value.str (Str.ofString "/claim/cut.py") 446] }
noncomputable def o_257 (q : Params) : Obj := { cls := Value.type "function", data := Data.func { name := Str.ofString "_law_lists", qualname := Str.ofString "_law_lists", params := fdArgs (nthS 13 P), body := FuncBody.stmts (fdBody (nthS 13 P)), scope := fdScope (nthS 13 P), globals := 3, closure := [], defaults := Value.none, kwdefaults := Value.none, pyModule := Value.str (Str.ofString "law_au0004_01") 429, code := Value.ref 211 } }
noncomputable def o_258 (q : Params) : Obj := { cls := Value.type "tuple", data := Data.seq #[] }
noncomputable def o_259 (q : Params) : Obj := { cls := Value.none, data := Data.fields #[] }
noncomputable def o_260 (q : Params) : Obj := { cls := Value.none, data := Data.func { name := Str.ofString "_law_pairings", qualname := Str.ofString "_law_pairings", params := fdArgs (nthS 14 P), body := FuncBody.stmts (fdBody (nthS 14 P)), scope := fdScope (nthS 14 P), globals := 0, closure := [], defaults := Value.none, kwdefaults := Value.none } }
noncomputable def o_261 (q : Params) : Obj := { cls := Value.type "code", data := Data.fields #[Value.str (Str.ofString "_law_pairings") 448, Value.str (Str.ofString "_law_pairings") 449, Value.str (Str.ofString "/claim/cut.py") 450, Value.int 129 0, Value.int 1 0, Value.int 0 0, Value.int 0 0, Value.int 3 0, Value.ref 213, Value.bool true, Value.int 181 0, Value.ref 214, Value.none, Value.none, Value.none, Value.ref 215, Value.int 451 0, Value.int 129 0, Value.str (Str.ofString "/claim/cut.py") 452] }
noncomputable def o_262 (q : Params) : Obj := { cls := Value.type "function", data := Data.func { name := Str.ofString "_law_pairings", qualname := Str.ofString "_law_pairings", params := fdArgs (nthS 14 P), body := FuncBody.stmts (fdBody (nthS 14 P)), scope := fdScope (nthS 14 P), globals := 3, closure := [], defaults := Value.none, kwdefaults := Value.none, pyModule := Value.str (Str.ofString "law_au0004_01") 429, code := Value.ref 216 } }
noncomputable def o_263 (q : Params) : Obj := { cls := Value.type "tuple", data := Data.seq #[] }
noncomputable def o_264 (q : Params) : Obj := { cls := Value.none, data := Data.fields #[] }
noncomputable def o_265 (q : Params) : Obj := { cls := Value.type "tuple", data := Data.seq #[Value.str (Str.ofString "lists") 457, Value.str (Str.ofString "mates") 458, Value.str (Str.ofString "name") 459, Value.str (Str.ofString "other") 460] }
noncomputable def o_266 (q : Params) : Obj := { cls := Value.type "tuple", data := Data.seq #[] }
noncomputable def o_267 (q : Params) : Obj := { cls := Value.none, data := Data.func { name := Str.ofString "_law_is_stable", qualname := Str.ofString "_law_is_stable", params := fdArgs (nthS 15 P), body := FuncBody.stmts (fdBody (nthS 15 P)), scope := fdScope (nthS 15 P), globals := 0, closure := [], defaults := Value.none, kwdefaults := Value.none } }
noncomputable def o_268 (q : Params) : Obj := { cls := Value.type "code", data := Data.fields #[Value.str (Str.ofString "_law_is_stable") 454, Value.str (Str.ofString "_law_is_stable") 455, Value.str (Str.ofString "/claim/cut.py") 456, Value.int 138 0, Value.int 2 0, Value.int 0 0, Value.int 0 0, Value.int 3 0, Value.ref 218, Value.bool true, Value.int 181 0, Value.ref 219, Value.none, Value.ref 220, Value.ref 221, Value.ref 222, Value.int 461 0, Value.int 138 0, Value.str (Str.ofString "/claim/cut.py") 462] }
noncomputable def o_269 (q : Params) : Obj := { cls := Value.type "function", data := Data.func { name := Str.ofString "_law_is_stable", qualname := Str.ofString "_law_is_stable", params := fdArgs (nthS 15 P), body := FuncBody.stmts (fdBody (nthS 15 P)), scope := fdScope (nthS 15 P), globals := 3, closure := [], defaults := Value.none, kwdefaults := Value.none, pyModule := Value.str (Str.ofString "law_au0004_01") 429, code := Value.ref 223 } }
noncomputable def o_270 (q : Params) : Obj := { cls := Value.type "tuple", data := Data.seq #[] }
noncomputable def o_271 (q : Params) : Obj := { cls := Value.none, data := Data.fields #[] }
noncomputable def o_272 (q : Params) : Obj := { cls := Value.none, data := Data.func { name := Str.ofString "_law_players", qualname := Str.ofString "_law_players", params := fdArgs (nthS 16 P), body := FuncBody.stmts (fdBody (nthS 16 P)), scope := fdScope (nthS 16 P), globals := 0, closure := [], defaults := Value.none, kwdefaults := Value.none } }
noncomputable def o_273 (q : Params) : Obj := { cls := Value.type "code", data := Data.fields #[Value.str (Str.ofString "_law_players") 464, Value.str (Str.ofString "_law_players") 465, Value.str (Str.ofString "/claim/cut.py") 466, Value.int 144 0, Value.int 2 0, Value.int 0 0, Value.int 0 0, Value.int 3 0, Value.ref 225, Value.bool true, Value.int 181 0, Value.ref 226, Value.none, Value.none, Value.none, Value.ref 227, Value.int 467 0, Value.int 144 0, Value.str (Str.ofString "/claim/cut.py") 468] }
noncomputable def o_274 (q : Params) : Obj := { cls := Value.type "function", data := Data.func { name := Str.ofString "_law_players", qualname := Str.ofString "_law_players", params := fdArgs (nthS 16 P), body := FuncBody.stmts (fdBody (nthS 16 P)), scope := fdScope (nthS 16 P), globals := 3, closure := [], defaults := Value.none, kwdefaults := Value.none, pyModule := Value.str (Str.ofString "law_au0004_01") 429, code := Value.ref 228 } }
noncomputable def o_275 (q : Params) : Obj := { cls := Value.type "tuple", data := Data.seq #[] }
noncomputable def o_276 (q : Params) : Obj := { cls := Value.none, data := Data.fields #[] }
noncomputable def o_277 (q : Params) : Obj := { cls := Value.none, data := Data.func { name := Str.ofString "_law_left", qualname := Str.ofString "_law_left", params := fdArgs (nthS 17 P), body := FuncBody.stmts (fdBody (nthS 17 P)), scope := fdScope (nthS 17 P), globals := 0, closure := [], defaults := Value.none, kwdefaults := Value.none } }
noncomputable def o_278 (q : Params) : Obj := { cls := Value.type "code", data := Data.fields #[Value.str (Str.ofString "_law_left") 470, Value.str (Str.ofString "_law_left") 471, Value.str (Str.ofString "/claim/cut.py") 472, Value.int 149 0, Value.int 1 0, Value.int 0 0, Value.int 0 0, Value.int 3 0, Value.ref 230, Value.bool true, Value.int 181 0, Value.ref 231, Value.none, Value.none, Value.none, Value.ref 232, Value.int 473 0, Value.int 149 0, Value.str (Str.ofString "/claim/cut.py") 474] }
noncomputable def o_279 (q : Params) : Obj := { cls := Value.type "function", data := Data.func { name := Str.ofString "_law_left", qualname := Str.ofString "_law_left", params := fdArgs (nthS 17 P), body := FuncBody.stmts (fdBody (nthS 17 P)), scope := fdScope (nthS 17 P), globals := 3, closure := [], defaults := Value.none, kwdefaults := Value.none, pyModule := Value.str (Str.ofString "law_au0004_01") 429, code := Value.ref 233 } }
noncomputable def o_280 (q : Params) : Obj := { cls := Value.type "tuple", data := Data.seq #[] }
noncomputable def o_281 (q : Params) : Obj := { cls := Value.none, data := Data.fields #[] }
noncomputable def o_282 (q : Params) : Obj := { cls := Value.none, data := Data.func { name := Str.ofString "_law_is_within", qualname := Str.ofString "_law_is_within", params := fdArgs (nthS 18 P), body := FuncBody.stmts (fdBody (nthS 18 P)), scope := fdScope (nthS 18 P), globals := 0, closure := [], defaults := Value.none, kwdefaults := Value.none } }
noncomputable def o_283 (q : Params) : Obj := { cls := Value.type "code", data := Data.fields #[Value.str (Str.ofString "_law_is_within") 476, Value.str (Str.ofString "_law_is_within") 477, Value.str (Str.ofString "/claim/cut.py") 478, Value.int 151 0, Value.int 2 0, Value.int 0 0, Value.int 0 0, Value.int 3 0, Value.ref 235, Value.bool true, Value.int 181 0, Value.ref 236, Value.none, Value.none, Value.none, Value.ref 237, Value.int 479 0, Value.int 151 0, Value.str (Str.ofString "/claim/cut.py") 480] }
noncomputable def o_284 (q : Params) : Obj := { cls := Value.type "function", data := Data.func { name := Str.ofString "_law_is_within", qualname := Str.ofString "_law_is_within", params := fdArgs (nthS 18 P), body := FuncBody.stmts (fdBody (nthS 18 P)), scope := fdScope (nthS 18 P), globals := 3, closure := [], defaults := Value.none, kwdefaults := Value.none, pyModule := Value.str (Str.ofString "law_au0004_01") 429, code := Value.ref 238 } }
noncomputable def o_285 (q : Params) : Obj := { cls := Value.type "tuple", data := Data.seq #[] }
noncomputable def o_286 (q : Params) : Obj := { cls := Value.none, data := Data.fields #[] }
noncomputable def o_287 (q : Params) : Obj := { cls := Value.none, data := Data.func { name := Str.ofString "_law_is_cycle", qualname := Str.ofString "_law_is_cycle", params := fdArgs (nthS 19 P), body := FuncBody.stmts (fdBody (nthS 19 P)), scope := fdScope (nthS 19 P), globals := 0, closure := [], defaults := Value.none, kwdefaults := Value.none } }
noncomputable def o_288 (q : Params) : Obj := { cls := Value.type "code", data := Data.fields #[Value.str (Str.ofString "_law_is_cycle") 482, Value.str (Str.ofString "_law_is_cycle") 483, Value.str (Str.ofString "/claim/cut.py") 484, Value.int 153 0, Value.int 2 0, Value.int 0 0, Value.int 0 0, Value.int 3 0, Value.ref 240, Value.bool true, Value.int 181 0, Value.ref 241, Value.none, Value.none, Value.none, Value.ref 242, Value.int 485 0, Value.int 153 0, Value.str (Str.ofString "/claim/cut.py") 486] }
noncomputable def o_289 (q : Params) : Obj := { cls := Value.type "function", data := Data.func { name := Str.ofString "_law_is_cycle", qualname := Str.ofString "_law_is_cycle", params := fdArgs (nthS 19 P), body := FuncBody.stmts (fdBody (nthS 19 P)), scope := fdScope (nthS 19 P), globals := 3, closure := [], defaults := Value.none, kwdefaults := Value.none, pyModule := Value.str (Str.ofString "law_au0004_01") 429, code := Value.ref 243 } }
noncomputable def o_290 (q : Params) : Obj := { cls := Value.type "tuple", data := Data.seq #[] }
noncomputable def o_291 (q : Params) : Obj := { cls := Value.none, data := Data.fields #[] }
noncomputable def o_292 (q : Params) : Obj := { cls := Value.none, data := Data.func { name := Str.ofString "_law_is_taken", qualname := Str.ofString "_law_is_taken", params := fdArgs (nthS 20 P), body := FuncBody.stmts (fdBody (nthS 20 P)), scope := fdScope (nthS 20 P), globals := 0, closure := [], defaults := Value.none, kwdefaults := Value.none } }
noncomputable def o_293 (q : Params) : Obj := { cls := Value.type "code", data := Data.fields #[Value.str (Str.ofString "_law_is_taken") 488, Value.str (Str.ofString "_law_is_taken") 489, Value.str (Str.ofString "/claim/cut.py") 490, Value.int 162 0, Value.int 4 0, Value.int 0 0, Value.int 0 0, Value.int 3 0, Value.ref 245, Value.bool true, Value.int 181 0, Value.ref 246, Value.none, Value.none, Value.none, Value.ref 247, Value.int 491 0, Value.int 162 0, Value.str (Str.ofString "/claim/cut.py") 492] }
noncomputable def o_294 (q : Params) : Obj := { cls := Value.type "function", data := Data.func { name := Str.ofString "_law_is_taken", qualname := Str.ofString "_law_is_taken", params := fdArgs (nthS 20 P), body := FuncBody.stmts (fdBody (nthS 20 P)), scope := fdScope (nthS 20 P), globals := 3, closure := [], defaults := Value.none, kwdefaults := Value.none, pyModule := Value.str (Str.ofString "law_au0004_01") 429, code := Value.ref 248 } }
noncomputable def o_295 (q : Params) : Obj := { cls := Value.type "tuple", data := Data.seq #[] }
noncomputable def o_296 (q : Params) : Obj := { cls := Value.none, data := Data.fields #[] }
noncomputable def o_297 (q : Params) : Obj := { cls := Value.none, data := Data.func { name := Str.ofString "law", qualname := Str.ofString "law", params := fdArgs (nthS 21 P), body := FuncBody.stmts (fdBody (nthS 21 P)), scope := fdScope (nthS 21 P), globals := 0, closure := [], defaults := Value.none, kwdefaults := Value.none } }
noncomputable def o_298 (q : Params) : Obj := { cls := Value.type "code", data := Data.fields #[Value.str (Str.ofString "law") 494, Value.str (Str.ofString "law") 495, Value.str (Str.ofString "/claim/cut.py") 496, Value.int 182 0, Value.int 1 0, Value.int 0 0, Value.int 0 0, Value.int 3 0, Value.ref 250, Value.bool true, Value.int 181 0, Value.ref 251, Value.none, Value.none, Value.none, Value.ref 252, Value.int 497 0, Value.int 182 0, Value.str (Str.ofString "/claim/cut.py") 498] }
noncomputable def o_299 (q : Params) : Obj := { cls := Value.type "function", data := Data.func { name := Str.ofString "law", qualname := Str.ofString "law", params := fdArgs (nthS 21 P), body := FuncBody.stmts (fdBody (nthS 21 P)), scope := fdScope (nthS 21 P), globals := 3, closure := [], defaults := Value.none, kwdefaults := Value.none, pyModule := Value.str (Str.ofString "law_au0004_01") 429, code := Value.ref 253 } }
noncomputable def tree_47 (q : Params) : BT := BT.node (boot_o_0 q) (BT.node (boot_o_1 q) (BT.node (boot_o_3 q) (BT.node (boot_o_7 q) BT.nil BT.nil) (BT.node (o_43 q) BT.nil BT.nil)) (BT.node (boot_o_5 q) (BT.node (boot_o_9 q) BT.nil BT.nil) (BT.node (o_45 q) BT.nil BT.nil))) (BT.node (boot_o_2 q) (BT.node (boot_o_4 q) (BT.node (boot_o_8 q) BT.nil BT.nil) (BT.node (o_44 q) BT.nil BT.nil)) (BT.node (boot_o_6 q) (BT.node (boot_o_10 q) BT.nil BT.nil) (BT.node (o_46 q) BT.nil BT.nil)))
noncomputable def tree_85 (q : Params) : BT := BT.node (boot_o_0 q) (BT.node (boot_o_1 q) (BT.node (o_49 q) (BT.node (boot_o_7 q) (BT.node (o_51 q) (BT.node (o_67 q) BT.nil BT.nil) (BT.node (o_83 q) BT.nil BT.nil)) (BT.node (o_59 q) (BT.node (o_75 q) BT.nil BT.nil) BT.nil)) (BT.node (o_43 q) (BT.node (o_55 q) (BT.node (o_71 q) BT.nil BT.nil) BT.nil) (BT.node (o_63 q) (BT.node (o_79 q) BT.nil BT.nil) BT.nil))) (BT.node (boot_o_5 q) (BT.node (boot_o_9 q) (BT.node (o_53 q) (BT.node (o_69 q) BT.nil BT.nil) (BT.node (o_85 q) BT.nil BT.nil)) (BT.node (o_61 q) (BT.node (o_77 q) BT.nil BT.nil) BT.nil)) (BT.node (o_45 q) (BT.node (o_57 q) (BT.node (o_73 q) BT.nil BT.nil) BT.nil) (BT.node (o_65 q) (BT.node (o_81 q) BT.nil BT.nil) BT.nil)))) (BT.node (boot_o_2 q) (BT.node (boot_o_4 q) (BT.node (boot_o_8 q) (BT.node (o_52 q) (BT.node (o_68 q) BT.nil BT.nil) (BT.node (o_84 q) BT.nil BT.nil)) (BT.node (o_60 q) (BT.node (o_76 q) BT.nil BT.nil) BT.nil)) (BT.node (o_50 q) (BT.node (o_56 q) (BT.node (o_72 q) BT.nil BT.nil) BT.nil) (BT.node (o_64 q) (BT.node (o_80 q) BT.nil BT.nil) BT.nil))) (BT.node (boot_o_6 q) (BT.node (boot_o_10 q) (BT.node (o_54 q) (BT.node (o_70 q) BT.nil BT.nil) BT.nil) (BT.node (o_62 q) (BT.node (o_78 q) BT.nil BT.nil) BT.nil)) (BT.node (o_46 q) (BT.node (o_58 q) (BT.node (o_74 q) BT.nil BT.nil) BT.nil) (BT.node (o_66 q) (BT.node (o_82 q) BT.nil BT.nil) BT.nil))))
noncomputable def tree_181 (q : Params) : BT := BT.node (boot_o_0 q) (BT.node (boot_o_1 q) (BT.node (o_86 q) (BT.node (boot_o_7 q) (BT.node (o_51 q) (BT.node (o_67 q) (BT.node (o_101 q) (BT.node (o_165 q) BT.nil BT.nil) BT.nil) (BT.node (o_133 q) BT.nil BT.nil)) (BT.node (o_83 q) (BT.node (o_117 q) (BT.node (o_181 q) BT.nil BT.nil) BT.nil) (BT.node (o_149 q) BT.nil BT.nil))) (BT.node (o_59 q) (BT.node (o_75 q) (BT.node (o_109 q) (BT.node (o_173 q) BT.nil BT.nil) BT.nil) (BT.node (o_141 q) BT.nil BT.nil)) (BT.node (o_93 q) (BT.node (o_125 q) BT.nil BT.nil) (BT.node (o_157 q) BT.nil BT.nil)))) (BT.node (o_43 q) (BT.node (o_55 q) (BT.node (o_71 q) (BT.node (o_105 q) (BT.node (o_169 q) BT.nil BT.nil) BT.nil) (BT.node (o_137 q) BT.nil BT.nil)) (BT.node (o_89 q) (BT.node (o_121 q) BT.nil BT.nil) (BT.node (o_153 q) BT.nil BT.nil))) (BT.node (o_63 q) (BT.node (o_79 q) (BT.node (o_113 q) (BT.node (o_177 q) BT.nil BT.nil) BT.nil) (BT.node (o_145 q) BT.nil BT.nil)) (BT.node (o_97 q) (BT.node (o_129 q) BT.nil BT.nil) (BT.node (o_161 q) BT.nil BT.nil))))) (BT.node (boot_o_5 q) (BT.node (boot_o_9 q) (BT.node (o_53 q) (BT.node (o_69 q) (BT.node (o_103 q) (BT.node (o_167 q) BT.nil BT.nil) BT.nil) (BT.node (o_135 q) BT.nil BT.nil)) (BT.node (o_85 q) (BT.node (o_119 q) BT.nil BT.nil) (BT.node (o_151 q) BT.nil BT.nil))) (BT.node (o_61 q) (BT.node (o_77 q) (BT.node (o_111 q) (BT.node (o_175 q) BT.nil BT.nil) BT.nil) (BT.node (o_143 q) BT.nil BT.nil)) (BT.node (o_95 q) (BT.node (o_127 q) BT.nil BT.nil) (BT.node (o_159 q) BT.nil BT.nil)))) (BT.node (o_45 q) (BT.node (o_57 q) (BT.node (o_73 q) (BT.node (o_107 q) (BT.node (o_171 q) BT.nil BT.nil) BT.nil) (BT.node (o_139 q) BT.nil BT.nil)) (BT.node (o_91 q) (BT.node (o_123 q) BT.nil BT.nil) (BT.node (o_155 q) BT.nil BT.nil))) (BT.node (o_65 q) (BT.node (o_81 q) (BT.node (o_115 q) (BT.node (o_179 q) BT.nil BT.nil) BT.nil) (BT.node (o_147 q) BT.nil BT.nil)) (BT.node (o_99 q) (BT.node (o_131 q) BT.nil BT.nil) (BT.node (o_163 q) BT.nil BT.nil)))))) (BT.node (boot_o_2 q) (BT.node (boot_o_4 q) (BT.node (boot_o_8 q) (BT.node (o_52 q) (BT.node (o_68 q) (BT.node (o_102 q) (BT.node (o_166 q) BT.nil BT.nil) BT.nil) (BT.node (o_134 q) BT.nil BT.nil)) (BT.node (o_84 q) (BT.node (o_118 q) BT.nil BT.nil) (BT.node (o_150 q) BT.nil BT.nil))) (BT.node (o_60 q) (BT.node (o_76 q) (BT.node (o_110 q) (BT.node (o_174 q) BT.nil BT.nil) BT.nil) (BT.node (o_142 q) BT.nil BT.nil)) (BT.node (o_94 q) (BT.node (o_126 q) BT.nil BT.nil) (BT.node (o_158 q) BT.nil BT.nil)))) (BT.node (o_87 q) (BT.node (o_56 q) (BT.node (o_72 q) (BT.node (o_106 q) (BT.node (o_170 q) BT.nil BT.nil) BT.nil) (BT.node (o_138 q) BT.nil BT.nil)) (BT.node (o_90 q) (BT.node (o_122 q) BT.nil BT.nil) (BT.node (o_154 q) BT.nil BT.nil))) (BT.node (o_64 q) (BT.node (o_80 q) (BT.node (o_114 q) (BT.node (o_178 q) BT.nil BT.nil) BT.nil) (BT.node (o_146 q) BT.nil BT.nil)) (BT.node (o_98 q) (BT.node (o_130 q) BT.nil BT.nil) (BT.node (o_162 q) BT.nil BT.nil))))) (BT.node (boot_o_6 q) (BT.node (boot_o_10 q) (BT.node (o_54 q) (BT.node (o_70 q) (BT.node (o_104 q) (BT.node (o_168 q) BT.nil BT.nil) BT.nil) (BT.node (o_136 q) BT.nil BT.nil)) (BT.node (o_88 q) (BT.node (o_120 q) BT.nil BT.nil) (BT.node (o_152 q) BT.nil BT.nil))) (BT.node (o_62 q) (BT.node (o_78 q) (BT.node (o_112 q) (BT.node (o_176 q) BT.nil BT.nil) BT.nil) (BT.node (o_144 q) BT.nil BT.nil)) (BT.node (o_96 q) (BT.node (o_128 q) BT.nil BT.nil) (BT.node (o_160 q) BT.nil BT.nil)))) (BT.node (o_46 q) (BT.node (o_58 q) (BT.node (o_74 q) (BT.node (o_108 q) (BT.node (o_172 q) BT.nil BT.nil) BT.nil) (BT.node (o_140 q) BT.nil BT.nil)) (BT.node (o_92 q) (BT.node (o_124 q) BT.nil BT.nil) (BT.node (o_156 q) BT.nil BT.nil))) (BT.node (o_66 q) (BT.node (o_82 q) (BT.node (o_116 q) (BT.node (o_180 q) BT.nil BT.nil) BT.nil) (BT.node (o_148 q) BT.nil BT.nil)) (BT.node (o_100 q) (BT.node (o_132 q) BT.nil BT.nil) (BT.node (o_164 q) BT.nil BT.nil))))))
noncomputable def tree_182 (q : Params) : BT := BT.node (boot_o_0 q) (BT.node (boot_o_1 q) (BT.node (o_182 q) (BT.node (boot_o_7 q) (BT.node (o_51 q) (BT.node (o_67 q) (BT.node (o_101 q) (BT.node (o_165 q) BT.nil BT.nil) BT.nil) (BT.node (o_133 q) BT.nil BT.nil)) (BT.node (o_83 q) (BT.node (o_117 q) (BT.node (o_181 q) BT.nil BT.nil) BT.nil) (BT.node (o_149 q) BT.nil BT.nil))) (BT.node (o_59 q) (BT.node (o_75 q) (BT.node (o_109 q) (BT.node (o_173 q) BT.nil BT.nil) BT.nil) (BT.node (o_141 q) BT.nil BT.nil)) (BT.node (o_93 q) (BT.node (o_125 q) BT.nil BT.nil) (BT.node (o_157 q) BT.nil BT.nil)))) (BT.node (o_43 q) (BT.node (o_55 q) (BT.node (o_71 q) (BT.node (o_105 q) (BT.node (o_169 q) BT.nil BT.nil) BT.nil) (BT.node (o_137 q) BT.nil BT.nil)) (BT.node (o_89 q) (BT.node (o_121 q) BT.nil BT.nil) (BT.node (o_153 q) BT.nil BT.nil))) (BT.node (o_63 q) (BT.node (o_79 q) (BT.node (o_113 q) (BT.node (o_177 q) BT.nil BT.nil) BT.nil) (BT.node (o_145 q) BT.nil BT.nil)) (BT.node (o_97 q) (BT.node (o_129 q) BT.nil BT.nil) (BT.node (o_161 q) BT.nil BT.nil))))) (BT.node (boot_o_5 q) (BT.node (boot_o_9 q) (BT.node (o_53 q) (BT.node (o_69 q) (BT.node (o_103 q) (BT.node (o_167 q) BT.nil BT.nil) BT.nil) (BT.node (o_135 q) BT.nil BT.nil)) (BT.node (o_85 q) (BT.node (o_119 q) BT.nil BT.nil) (BT.node (o_151 q) BT.nil BT.nil))) (BT.node (o_61 q) (BT.node (o_77 q) (BT.node (o_111 q) (BT.node (o_175 q) BT.nil BT.nil) BT.nil) (BT.node (o_143 q) BT.nil BT.nil)) (BT.node (o_95 q) (BT.node (o_127 q) BT.nil BT.nil) (BT.node (o_159 q) BT.nil BT.nil)))) (BT.node (o_45 q) (BT.node (o_57 q) (BT.node (o_73 q) (BT.node (o_107 q) (BT.node (o_171 q) BT.nil BT.nil) BT.nil) (BT.node (o_139 q) BT.nil BT.nil)) (BT.node (o_91 q) (BT.node (o_123 q) BT.nil BT.nil) (BT.node (o_155 q) BT.nil BT.nil))) (BT.node (o_65 q) (BT.node (o_81 q) (BT.node (o_115 q) (BT.node (o_179 q) BT.nil BT.nil) BT.nil) (BT.node (o_147 q) BT.nil BT.nil)) (BT.node (o_99 q) (BT.node (o_131 q) BT.nil BT.nil) (BT.node (o_163 q) BT.nil BT.nil)))))) (BT.node (boot_o_2 q) (BT.node (boot_o_4 q) (BT.node (boot_o_8 q) (BT.node (o_52 q) (BT.node (o_68 q) (BT.node (o_102 q) (BT.node (o_166 q) BT.nil BT.nil) BT.nil) (BT.node (o_134 q) BT.nil BT.nil)) (BT.node (o_84 q) (BT.node (o_118 q) BT.nil BT.nil) (BT.node (o_150 q) BT.nil BT.nil))) (BT.node (o_60 q) (BT.node (o_76 q) (BT.node (o_110 q) (BT.node (o_174 q) BT.nil BT.nil) BT.nil) (BT.node (o_142 q) BT.nil BT.nil)) (BT.node (o_94 q) (BT.node (o_126 q) BT.nil BT.nil) (BT.node (o_158 q) BT.nil BT.nil)))) (BT.node (o_87 q) (BT.node (o_56 q) (BT.node (o_72 q) (BT.node (o_106 q) (BT.node (o_170 q) BT.nil BT.nil) BT.nil) (BT.node (o_138 q) BT.nil BT.nil)) (BT.node (o_90 q) (BT.node (o_122 q) BT.nil BT.nil) (BT.node (o_154 q) BT.nil BT.nil))) (BT.node (o_64 q) (BT.node (o_80 q) (BT.node (o_114 q) (BT.node (o_178 q) BT.nil BT.nil) BT.nil) (BT.node (o_146 q) BT.nil BT.nil)) (BT.node (o_98 q) (BT.node (o_130 q) BT.nil BT.nil) (BT.node (o_162 q) BT.nil BT.nil))))) (BT.node (boot_o_6 q) (BT.node (boot_o_10 q) (BT.node (o_54 q) (BT.node (o_70 q) (BT.node (o_104 q) (BT.node (o_168 q) BT.nil BT.nil) BT.nil) (BT.node (o_136 q) BT.nil BT.nil)) (BT.node (o_88 q) (BT.node (o_120 q) BT.nil BT.nil) (BT.node (o_152 q) BT.nil BT.nil))) (BT.node (o_62 q) (BT.node (o_78 q) (BT.node (o_112 q) (BT.node (o_176 q) BT.nil BT.nil) BT.nil) (BT.node (o_144 q) BT.nil BT.nil)) (BT.node (o_96 q) (BT.node (o_128 q) BT.nil BT.nil) (BT.node (o_160 q) BT.nil BT.nil)))) (BT.node (o_46 q) (BT.node (o_58 q) (BT.node (o_74 q) (BT.node (o_108 q) (BT.node (o_172 q) BT.nil BT.nil) BT.nil) (BT.node (o_140 q) BT.nil BT.nil)) (BT.node (o_92 q) (BT.node (o_124 q) BT.nil BT.nil) (BT.node (o_156 q) BT.nil BT.nil))) (BT.node (o_66 q) (BT.node (o_82 q) (BT.node (o_116 q) (BT.node (o_180 q) BT.nil BT.nil) BT.nil) (BT.node (o_148 q) BT.nil BT.nil)) (BT.node (o_100 q) (BT.node (o_132 q) BT.nil BT.nil) (BT.node (o_164 q) BT.nil BT.nil))))))
noncomputable def tree_243 (q : Params) : BT := BT.node (boot_o_0 q) (BT.node (boot_o_1 q) (BT.node (o_184 q) (BT.node (boot_o_7 q) (BT.node (o_51 q) (BT.node (o_67 q) (BT.node (o_101 q) (BT.node (o_165 q) BT.nil BT.nil) (BT.node (o_234 q) BT.nil BT.nil)) (BT.node (o_133 q) (BT.node (o_202 q) BT.nil BT.nil) BT.nil)) (BT.node (o_83 q) (BT.node (o_117 q) (BT.node (o_181 q) BT.nil BT.nil) BT.nil) (BT.node (o_149 q) (BT.node (o_218 q) BT.nil BT.nil) BT.nil))) (BT.node (o_59 q) (BT.node (o_75 q) (BT.node (o_109 q) (BT.node (o_173 q) BT.nil BT.nil) (BT.node (o_242 q) BT.nil BT.nil)) (BT.node (o_141 q) (BT.node (o_210 q) BT.nil BT.nil) BT.nil)) (BT.node (o_93 q) (BT.node (o_125 q) (BT.node (o_194 q) BT.nil BT.nil) BT.nil) (BT.node (o_157 q) (BT.node (o_226 q) BT.nil BT.nil) BT.nil)))) (BT.node (o_43 q) (BT.node (o_55 q) (BT.node (o_71 q) (BT.node (o_105 q) (BT.node (o_169 q) BT.nil BT.nil) (BT.node (o_238 q) BT.nil BT.nil)) (BT.node (o_137 q) (BT.node (o_206 q) BT.nil BT.nil) BT.nil)) (BT.node (o_89 q) (BT.node (o_121 q) (BT.node (o_190 q) BT.nil BT.nil) BT.nil) (BT.node (o_153 q) (BT.node (o_222 q) BT.nil BT.nil) BT.nil))) (BT.node (o_63 q) (BT.node (o_79 q) (BT.node (o_113 q) (BT.node (o_186 q) BT.nil BT.nil) BT.nil) (BT.node (o_145 q) (BT.node (o_214 q) BT.nil BT.nil) BT.nil)) (BT.node (o_97 q) (BT.node (o_129 q) (BT.node (o_198 q) BT.nil BT.nil) BT.nil) (BT.node (o_161 q) (BT.node (o_230 q) BT.nil BT.nil) BT.nil))))) (BT.node (boot_o_5 q) (BT.node (boot_o_9 q) (BT.node (o_53 q) (BT.node (o_69 q) (BT.node (o_103 q) (BT.node (o_167 q) BT.nil BT.nil) (BT.node (o_236 q) BT.nil BT.nil)) (BT.node (o_135 q) (BT.node (o_204 q) BT.nil BT.nil) BT.nil)) (BT.node (o_85 q) (BT.node (o_119 q) (BT.node (o_188 q) BT.nil BT.nil) BT.nil) (BT.node (o_151 q) (BT.node (o_220 q) BT.nil BT.nil) BT.nil))) (BT.node (o_61 q) (BT.node (o_77 q) (BT.node (o_111 q) (BT.node (o_175 q) BT.nil BT.nil) BT.nil) (BT.node (o_143 q) (BT.node (o_212 q) BT.nil BT.nil) BT.nil)) (BT.node (o_95 q) (BT.node (o_127 q) (BT.node (o_196 q) BT.nil BT.nil) BT.nil) (BT.node (o_159 q) (BT.node (o_228 q) BT.nil BT.nil) BT.nil)))) (BT.node (o_45 q) (BT.node (o_57 q) (BT.node (o_73 q) (BT.node (o_107 q) (BT.node (o_171 q) BT.nil BT.nil) (BT.node (o_240 q) BT.nil BT.nil)) (BT.node (o_139 q) (BT.node (o_208 q) BT.nil BT.nil) BT.nil)) (BT.node (o_91 q) (BT.node (o_123 q) (BT.node (o_192 q) BT.nil BT.nil) BT.nil) (BT.node (o_155 q) (BT.node (o_224 q) BT.nil BT.nil) BT.nil))) (BT.node (o_65 q) (BT.node (o_81 q) (BT.node (o_115 q) (BT.node (o_179 q) BT.nil BT.nil) BT.nil) (BT.node (o_147 q) (BT.node (o_216 q) BT.nil BT.nil) BT.nil)) (BT.node (o_99 q) (BT.node (o_131 q) (BT.node (o_200 q) BT.nil BT.nil) BT.nil) (BT.node (o_163 q) (BT.node (o_232 q) BT.nil BT.nil) BT.nil)))))) (BT.node (boot_o_2 q) (BT.node (boot_o_4 q) (BT.node (boot_o_8 q) (BT.node (o_52 q) (BT.node (o_68 q) (BT.node (o_102 q) (BT.node (o_166 q) BT.nil BT.nil) (BT.node (o_235 q) BT.nil BT.nil)) (BT.node (o_134 q) (BT.node (o_203 q) BT.nil BT.nil) BT.nil)) (BT.node (o_84 q) (BT.node (o_118 q) (BT.node (o_187 q) BT.nil BT.nil) BT.nil) (BT.node (o_150 q) (BT.node (o_219 q) BT.nil BT.nil) BT.nil))) (BT.node (o_60 q) (BT.node (o_76 q) (BT.node (o_110 q) (BT.node (o_174 q) BT.nil BT.nil) (BT.node (o_243 q) BT.nil BT.nil)) (BT.node (o_142 q) (BT.node (o_211 q) BT.nil BT.nil) BT.nil)) (BT.node (o_94 q) (BT.node (o_126 q) (BT.node (o_195 q) BT.nil BT.nil) BT.nil) (BT.node (o_158 q) (BT.node (o_227 q) BT.nil BT.nil) BT.nil)))) (BT.node (o_185 q) (BT.node (o_56 q) (BT.node (o_72 q) (BT.node (o_106 q) (BT.node (o_170 q) BT.nil BT.nil) (BT.node (o_239 q) BT.nil BT.nil)) (BT.node (o_138 q) (BT.node (o_207 q) BT.nil BT.nil) BT.nil)) (BT.node (o_90 q) (BT.node (o_122 q) (BT.node (o_191 q) BT.nil BT.nil) BT.nil) (BT.node (o_154 q) (BT.node (o_223 q) BT.nil BT.nil) BT.nil))) (BT.node (o_64 q) (BT.node (o_80 q) (BT.node (o_114 q) (BT.node (o_178 q) BT.nil BT.nil) BT.nil) (BT.node (o_146 q) (BT.node (o_215 q) BT.nil BT.nil) BT.nil)) (BT.node (o_98 q) (BT.node (o_130 q) (BT.node (o_199 q) BT.nil BT.nil) BT.nil) (BT.node (o_162 q) (BT.node (o_231 q) BT.nil BT.nil) BT.nil))))) (BT.node (boot_o_6 q) (BT.node (boot_o_10 q) (BT.node (o_54 q) (BT.node (o_70 q) (BT.node (o_104 q) (BT.node (o_168 q) BT.nil BT.nil) (BT.node (o_237 q) BT.nil BT.nil)) (BT.node (o_136 q) (BT.node (o_205 q) BT.nil BT.nil) BT.nil)) (BT.node (o_88 q) (BT.node (o_120 q) (BT.node (o_189 q) BT.nil BT.nil) BT.nil) (BT.node (o_152 q) (BT.node (o_221 q) BT.nil BT.nil) BT.nil))) (BT.node (o_62 q) (BT.node (o_78 q) (BT.node (o_112 q) (BT.node (o_176 q) BT.nil BT.nil) BT.nil) (BT.node (o_144 q) (BT.node (o_213 q) BT.nil BT.nil) BT.nil)) (BT.node (o_96 q) (BT.node (o_128 q) (BT.node (o_197 q) BT.nil BT.nil) BT.nil) (BT.node (o_160 q) (BT.node (o_229 q) BT.nil BT.nil) BT.nil)))) (BT.node (o_46 q) (BT.node (o_58 q) (BT.node (o_74 q) (BT.node (o_108 q) (BT.node (o_172 q) BT.nil BT.nil) (BT.node (o_241 q) BT.nil BT.nil)) (BT.node (o_140 q) (BT.node (o_209 q) BT.nil BT.nil) BT.nil)) (BT.node (o_92 q) (BT.node (o_124 q) (BT.node (o_193 q) BT.nil BT.nil) BT.nil) (BT.node (o_156 q) (BT.node (o_225 q) BT.nil BT.nil) BT.nil))) (BT.node (o_66 q) (BT.node (o_82 q) (BT.node (o_116 q) (BT.node (o_180 q) BT.nil BT.nil) BT.nil) (BT.node (o_148 q) (BT.node (o_217 q) BT.nil BT.nil) BT.nil)) (BT.node (o_100 q) (BT.node (o_132 q) (BT.node (o_201 q) BT.nil BT.nil) BT.nil) (BT.node (o_164 q) (BT.node (o_233 q) BT.nil BT.nil) BT.nil))))))
noncomputable def tree_299 (q : Params) : BT := BT.node (boot_o_0 q) (BT.node (boot_o_1 q) (BT.node (o_244 q) (BT.node (boot_o_7 q) (BT.node (o_51 q) (BT.node (o_67 q) (BT.node (o_101 q) (BT.node (o_165 q) BT.nil BT.nil) (BT.node (o_234 q) BT.nil BT.nil)) (BT.node (o_133 q) (BT.node (o_202 q) BT.nil BT.nil) (BT.node (o_268 q) BT.nil BT.nil))) (BT.node (o_83 q) (BT.node (o_117 q) (BT.node (o_181 q) BT.nil BT.nil) (BT.node (o_252 q) BT.nil BT.nil)) (BT.node (o_149 q) (BT.node (o_218 q) BT.nil BT.nil) (BT.node (o_284 q) BT.nil BT.nil)))) (BT.node (o_59 q) (BT.node (o_75 q) (BT.node (o_109 q) (BT.node (o_173 q) BT.nil BT.nil) (BT.node (o_242 q) BT.nil BT.nil)) (BT.node (o_141 q) (BT.node (o_210 q) BT.nil BT.nil) (BT.node (o_276 q) BT.nil BT.nil))) (BT.node (o_93 q) (BT.node (o_125 q) (BT.node (o_194 q) BT.nil BT.nil) (BT.node (o_260 q) BT.nil BT.nil)) (BT.node (o_157 q) (BT.node (o_226 q) BT.nil BT.nil) (BT.node (o_292 q) BT.nil BT.nil))))) (BT.node (o_43 q) (BT.node (o_55 q) (BT.node (o_71 q) (BT.node (o_105 q) (BT.node (o_169 q) BT.nil BT.nil) (BT.node (o_238 q) BT.nil BT.nil)) (BT.node (o_137 q) (BT.node (o_206 q) BT.nil BT.nil) (BT.node (o_272 q) BT.nil BT.nil))) (BT.node (o_89 q) (BT.node (o_121 q) (BT.node (o_190 q) BT.nil BT.nil) (BT.node (o_256 q) BT.nil BT.nil)) (BT.node (o_153 q) (BT.node (o_222 q) BT.nil BT.nil) (BT.node (o_288 q) BT.nil BT.nil)))) (BT.node (o_63 q) (BT.node (o_79 q) (BT.node (o_113 q) (BT.node (o_186 q) BT.nil BT.nil) (BT.node (o_248 q) BT.nil BT.nil)) (BT.node (o_145 q) (BT.node (o_214 q) BT.nil BT.nil) (BT.node (o_280 q) BT.nil BT.nil))) (BT.node (o_97 q) (BT.node (o_129 q) (BT.node (o_198 q) BT.nil BT.nil) (BT.node (o_264 q) BT.nil BT.nil)) (BT.node (o_161 q) (BT.node (o_230 q) BT.nil BT.nil) (BT.node (o_296 q) BT.nil BT.nil)))))) (BT.node (boot_o_5 q) (BT.node (boot_o_9 q) (BT.node (o_53 q) (BT.node (o_69 q) (BT.node (o_103 q) (BT.node (o_167 q) BT.nil BT.nil) (BT.node (o_236 q) BT.nil BT.nil)) (BT.node (o_135 q) (BT.node (o_204 q) BT.nil BT.nil) (BT.node (o_270 q) BT.nil BT.nil))) (BT.node (o_85 q) (BT.node (o_119 q) (BT.node (o_188 q) BT.nil BT.nil) (BT.node (o_254 q) BT.nil BT.nil)) (BT.node (o_151 q) (BT.node (o_220 q) BT.nil BT.nil) (BT.node (o_286 q) BT.nil BT.nil)))) (BT.node (o_61 q) (BT.node (o_77 q) (BT.node (o_111 q) (BT.node (o_175 q) BT.nil BT.nil) (BT.node (o_246 q) BT.nil BT.nil)) (BT.node (o_143 q) (BT.node (o_212 q) BT.nil BT.nil) (BT.node (o_278 q) BT.nil BT.nil))) (BT.node (o_95 q) (BT.node (o_127 q) (BT.node (o_196 q) BT.nil BT.nil) (BT.node (o_262 q) BT.nil BT.nil)) (BT.node (o_159 q) (BT.node (o_228 q) BT.nil BT.nil) (BT.node (o_294 q) BT.nil BT.nil))))) (BT.node (o_45 q) (BT.node (o_57 q) (BT.node (o_73 q) (BT.node (o_107 q) (BT.node (o_171 q) BT.nil BT.nil) (BT.node (o_240 q) BT.nil BT.nil)) (BT.node (o_139 q) (BT.node (o_208 q) BT.nil BT.nil) (BT.node (o_274 q) BT.nil BT.nil))) (BT.node (o_91 q) (BT.node (o_123 q) (BT.node (o_192 q) BT.nil BT.nil) (BT.node (o_258 q) BT.nil BT.nil)) (BT.node (o_155 q) (BT.node (o_224 q) BT.nil BT.nil) (BT.node (o_290 q) BT.nil BT.nil)))) (BT.node (o_65 q) (BT.node (o_81 q) (BT.node (o_115 q) (BT.node (o_179 q) BT.nil BT.nil) (BT.node (o_250 q) BT.nil BT.nil)) (BT.node (o_147 q) (BT.node (o_216 q) BT.nil BT.nil) (BT.node (o_282 q) BT.nil BT.nil))) (BT.node (o_99 q) (BT.node (o_131 q) (BT.node (o_200 q) BT.nil BT.nil) (BT.node (o_266 q) BT.nil BT.nil)) (BT.node (o_163 q) (BT.node (o_232 q) BT.nil BT.nil) (BT.node (o_298 q) BT.nil BT.nil))))))) (BT.node (boot_o_2 q) (BT.node (boot_o_4 q) (BT.node (boot_o_8 q) (BT.node (o_52 q) (BT.node (o_68 q) (BT.node (o_102 q) (BT.node (o_166 q) BT.nil BT.nil) (BT.node (o_235 q) BT.nil BT.nil)) (BT.node (o_134 q) (BT.node (o_203 q) BT.nil BT.nil) (BT.node (o_269 q) BT.nil BT.nil))) (BT.node (o_84 q) (BT.node (o_118 q) (BT.node (o_187 q) BT.nil BT.nil) (BT.node (o_253 q) BT.nil BT.nil)) (BT.node (o_150 q) (BT.node (o_219 q) BT.nil BT.nil) (BT.node (o_285 q) BT.nil BT.nil)))) (BT.node (o_60 q) (BT.node (o_76 q) (BT.node (o_110 q) (BT.node (o_174 q) BT.nil BT.nil) (BT.node (o_243 q) BT.nil BT.nil)) (BT.node (o_142 q) (BT.node (o_211 q) BT.nil BT.nil) (BT.node (o_277 q) BT.nil BT.nil))) (BT.node (o_94 q) (BT.node (o_126 q) (BT.node (o_195 q) BT.nil BT.nil) (BT.node (o_261 q) BT.nil BT.nil)) (BT.node (o_158 q) (BT.node (o_227 q) BT.nil BT.nil) (BT.node (o_293 q) BT.nil BT.nil))))) (BT.node (o_245 q) (BT.node (o_56 q) (BT.node (o_72 q) (BT.node (o_106 q) (BT.node (o_170 q) BT.nil BT.nil) (BT.node (o_239 q) BT.nil BT.nil)) (BT.node (o_138 q) (BT.node (o_207 q) BT.nil BT.nil) (BT.node (o_273 q) BT.nil BT.nil))) (BT.node (o_90 q) (BT.node (o_122 q) (BT.node (o_191 q) BT.nil BT.nil) (BT.node (o_257 q) BT.nil BT.nil)) (BT.node (o_154 q) (BT.node (o_223 q) BT.nil BT.nil) (BT.node (o_289 q) BT.nil BT.nil)))) (BT.node (o_64 q) (BT.node (o_80 q) (BT.node (o_114 q) (BT.node (o_178 q) BT.nil BT.nil) (BT.node (o_249 q) BT.nil BT.nil)) (BT.node (o_146 q) (BT.node (o_215 q) BT.nil BT.nil) (BT.node (o_281 q) BT.nil BT.nil))) (BT.node (o_98 q) (BT.node (o_130 q) (BT.node (o_199 q) BT.nil BT.nil) (BT.node (o_265 q) BT.nil BT.nil)) (BT.node (o_162 q) (BT.node (o_231 q) BT.nil BT.nil) (BT.node (o_297 q) BT.nil BT.nil)))))) (BT.node (boot_o_6 q) (BT.node (boot_o_10 q) (BT.node (o_54 q) (BT.node (o_70 q) (BT.node (o_104 q) (BT.node (o_168 q) BT.nil BT.nil) (BT.node (o_237 q) BT.nil BT.nil)) (BT.node (o_136 q) (BT.node (o_205 q) BT.nil BT.nil) (BT.node (o_271 q) BT.nil BT.nil))) (BT.node (o_88 q) (BT.node (o_120 q) (BT.node (o_189 q) BT.nil BT.nil) (BT.node (o_255 q) BT.nil BT.nil)) (BT.node (o_152 q) (BT.node (o_221 q) BT.nil BT.nil) (BT.node (o_287 q) BT.nil BT.nil)))) (BT.node (o_62 q) (BT.node (o_78 q) (BT.node (o_112 q) (BT.node (o_176 q) BT.nil BT.nil) (BT.node (o_247 q) BT.nil BT.nil)) (BT.node (o_144 q) (BT.node (o_213 q) BT.nil BT.nil) (BT.node (o_279 q) BT.nil BT.nil))) (BT.node (o_96 q) (BT.node (o_128 q) (BT.node (o_197 q) BT.nil BT.nil) (BT.node (o_263 q) BT.nil BT.nil)) (BT.node (o_160 q) (BT.node (o_229 q) BT.nil BT.nil) (BT.node (o_295 q) BT.nil BT.nil))))) (BT.node (o_46 q) (BT.node (o_58 q) (BT.node (o_74 q) (BT.node (o_108 q) (BT.node (o_172 q) BT.nil BT.nil) (BT.node (o_241 q) BT.nil BT.nil)) (BT.node (o_140 q) (BT.node (o_209 q) BT.nil BT.nil) (BT.node (o_275 q) BT.nil BT.nil))) (BT.node (o_92 q) (BT.node (o_124 q) (BT.node (o_193 q) BT.nil BT.nil) (BT.node (o_259 q) BT.nil BT.nil)) (BT.node (o_156 q) (BT.node (o_225 q) BT.nil BT.nil) (BT.node (o_291 q) BT.nil BT.nil)))) (BT.node (o_66 q) (BT.node (o_82 q) (BT.node (o_116 q) (BT.node (o_180 q) BT.nil BT.nil) (BT.node (o_251 q) BT.nil BT.nil)) (BT.node (o_148 q) (BT.node (o_217 q) BT.nil BT.nil) (BT.node (o_283 q) BT.nil BT.nil))) (BT.node (o_100 q) (BT.node (o_132 q) (BT.node (o_201 q) BT.nil BT.nil) (BT.node (o_267 q) BT.nil BT.nil)) (BT.node (o_164 q) (BT.node (o_233 q) BT.nil BT.nil) (BT.node (o_299 q) BT.nil BT.nil)))))))
noncomputable def heap_46 (q : Params) : Heap := { objs := { toList := [boot_o_0 q, boot_o_1 q, boot_o_2 q, boot_o_3 q, boot_o_4 q, boot_o_5 q, boot_o_6 q, boot_o_7 q, boot_o_8 q, boot_o_9 q, boot_o_10 q, o_43 q, o_44 q, o_45 q, o_46 q] } }
noncomputable def heap_300 (q : Params) : Heap := { objs := { toList := [boot_o_0 q, boot_o_1 q, boot_o_2 q, o_244 q, boot_o_4 q, boot_o_5 q, boot_o_6 q, boot_o_7 q, boot_o_8 q, boot_o_9 q, boot_o_10 q, o_43 q, o_245 q, o_45 q, o_46 q, o_51 q, o_52 q, o_53 q, o_54 q, o_55 q, o_56 q, o_57 q, o_58 q, o_59 q, o_60 q, o_61 q, o_62 q, o_63 q, o_64 q, o_65 q, o_66 q, o_67 q, o_68 q, o_69 q, o_70 q, o_71 q, o_72 q, o_73 q, o_74 q, o_75 q, o_76 q, o_77 q, o_78 q, o_79 q, o_80 q, o_81 q, o_82 q, o_83 q, o_84 q, o_85 q, o_88 q, o_89 q, o_90 q, o_91 q, o_92 q, o_93 q, o_94 q, o_95 q, o_96 q, o_97 q, o_98 q, o_99 q, o_100 q, o_101 q, o_102 q, o_103 q, o_104 q, o_105 q, o_106 q, o_107 q, o_108 q, o_109 q, o_110 q, o_111 q, o_112 q, o_113 q, o_114 q, o_115 q, o_116 q, o_117 q, o_118 q, o_119 q, o_120 q, o_121 q, o_122 q, o_123 q, o_124 q, o_125 q, o_126 q, o_127 q, o_128 q, o_129 q, o_130 q, o_131 q, o_132 q, o_133 q, o_134 q, o_135 q, o_136 q, o_137 q, o_138 q, o_139 q, o_140 q, o_141 q, o_142 q, o_143 q, o_144 q, o_145 q, o_146 q, o_147 q, o_148 q, o_149 q, o_150 q, o_151 q, o_152 q, o_153 q, o_154 q, o_155 q, o_156 q, o_157 q, o_158 q, o_159 q, o_160 q, o_161 q, o_162 q, o_163 q, o_164 q, o_165 q, o_166 q, o_167 q, o_168 q, o_169 q, o_170 q, o_171 q, o_172 q, o_173 q, o_174 q, o_175 q, o_176 q, o_186 q, o_178 q, o_179 q, o_180 q, o_181 q, o_187 q, o_188 q, o_189 q, o_190 q, o_191 q, o_192 q, o_193 q, o_194 q, o_195 q, o_196 q, o_197 q, o_198 q, o_199 q, o_200 q, o_201 q, o_202 q, o_203 q, o_204 q, o_205 q, o_206 q, o_207 q, o_208 q, o_209 q, o_210 q, o_211 q, o_212 q, o_213 q, o_214 q, o_215 q, o_216 q, o_217 q, o_218 q, o_219 q, o_220 q, o_221 q, o_222 q, o_223 q, o_224 q, o_225 q, o_226 q, o_227 q, o_228 q, o_229 q, o_230 q, o_231 q, o_232 q, o_233 q, o_234 q, o_235 q, o_236 q, o_237 q, o_238 q, o_239 q, o_240 q, o_241 q, o_242 q, o_243 q, o_246 q, o_247 q, o_248 q, o_249 q, o_250 q, o_251 q, o_252 q, o_253 q, o_254 q, o_255 q, o_256 q, o_257 q, o_258 q, o_259 q, o_260 q, o_261 q, o_262 q, o_263 q, o_264 q, o_265 q, o_266 q, o_267 q, o_268 q, o_269 q, o_270 q, o_271 q, o_272 q, o_273 q, o_274 q, o_275 q, o_276 q, o_277 q, o_278 q, o_279 q, o_280 q, o_281 q, o_282 q, o_283 q, o_284 q, o_285 q, o_286 q, o_287 q, o_288 q, o_289 q, o_290 q, o_291 q, o_292 q, o_293 q, o_294 q, o_295 q, o_296 q, o_297 q, o_298 q, o_299 q] } }
noncomputable def KK (q : Params) : Frag := [(2, boot_o_2 q), (3, o_244 q), (27, o_63 q), (28, o_64 q), (34, o_70 q), (35, o_71 q), (41, o_77 q), (42, o_78 q), (48, o_84 q), (49, o_85 q), (62, o_100 q), (63, o_101 q), (74, o_112 q), (75, o_113 q), (93, o_131 q), (94, o_132 q), (138, o_176 q), (139, o_186 q), (147, o_190 q), (158, o_201 q), (159, o_202 q), (165, o_208 q), (166, o_209 q), (172, o_215 q), (173, o_216 q), (179, o_222 q), (180, o_223 q), (186, o_229 q), (187, o_230 q), (197, o_240 q), (198, o_241 q), (206, o_251 q), (207, o_252 q), (211, o_256 q), (212, o_257 q), (216, o_261 q), (217, o_262 q), (223, o_268 q), (224, o_269 q), (228, o_273 q), (229, o_274 q), (233, o_278 q), (234, o_279 q), (238, o_283 q), (239, o_284 q), (243, o_288 q), (244, o_289 q), (248, o_293 q), (249, o_294 q)]
def KA : List Addr := [2, 3, 27, 28, 34, 35, 41, 42, 48, 49, 62, 63, 74, 75, 93, 94, 138, 139, 147, 158, 159, 165, 166, 172, 173, 179, 180, 186, 187, 197, 198, 206, 207, 211, 212, 216, 217, 223, 224, 228, 229, 233, 234, 238, 239, 243, 244, 248, 249]
def LO : List Str := ["_wall", "_delete_pair", "first_phase", "locate_all_or_nothing_cycle", "get_pairs_to_delete", "BasePlayer", "Player", "_law_order", "_law_lists", "_law_pairings", "_law_is_stable", "_law_players", "_law_left", "_law_is_within", "_law_is_cycle", "_law_is_taken"]
noncomputable abbrev PP : Program := PySem.Challenge.rw_au0004_01.row.prog
noncomputable def VV : Program := { PP with main := { PP.main with body := [S_law] } }
theorem KA_eq (q : Params) : KA = (KK q).map (·.1) := by kernel_rfl
noncomputable abbrev HH : Hook := kHook KK KA KA_eq
noncomputable abbrev XT : Shared → Bool := fun s => xlAt VV [] s && recOk (RowW.records (OpenRow.toRowW PySem.Challenge.rw_au0004_01.row)) s
noncomputable def EE : Env := { scope := PP.main.scope, locals := mainNs, globals := mainNs, cells := [], code := Value.ref 13, frame := some 14 }
noncomputable abbrev BB : List Stmt := behindTheImports PP
noncomputable abbrev CC : Code := Code.body BB EE
abbrev Z0 : Pos := { line := 0, col := 0, endLine := 0, endCol := 0 }
noncomputable abbrev FF : List Frame := [topFrame Z0]
noncomputable abbrev TT (tr : BT) (n k : Nat) (os : OsState) : SharedT := { tree := tr, n := n, life := {}, gens := { toList := [] }, drawn := {}, toks := k, os := os }
noncomputable def L1 : List Stmt := [nthS 0 P, nthS 1 P, nthS 2 P, nthS 3 P, nthS 4 P, nthS 5 P, nthS 6 P, nthS 7 P]
noncomputable def L2 : List Stmt := [nthS 8 P]
noncomputable def L3 : List Stmt := [nthS 9 P]
noncomputable def L4 : List Stmt := [nthS 10 P]
noncomputable def L5 : List Stmt := [nthS 11 P, nthS 12 P, nthS 13 P, nthS 14 P, nthS 15 P, nthS 16 P, nthS 17 P, nthS 18 P, nthS 19 P, nthS 20 P, nthS 21 P]
theorem body_eq : BB = L1 ++ (L2 ++ (L3 ++ (L4 ++ (L5 ++ [])))) := by kernel_rfl
abbrev A1 : Pos := { line := 48, col := 0, endLine := 48, endCol := 8 }
abbrev A2 : Pos := { line := 49, col := 0, endLine := 93, endCol := 16 }
abbrev A3 : Pos := { line := 94, col := 0, endLine := 94, endCol := 8 }
abbrev A4 : Pos := { line := 95, col := 0, endLine := 114, endCol := 16 }
abbrev A5 : Pos := { line := 182, col := 0, endLine := 195, endCol := 38 }
abbrev AN : Option Value := some (Value.ref 6)
theorem p0 (w : World) : (fun os => topGo treeTable PP w 11 AN 12 { heap := boot_heap w.params, drawn := boot_drawn, toks := boot_toks, os := os } (topStub PP)) = fun os => some ({ heap := heap_46 w.params, toks := 187, os := os }, { cur := denote treeTable CC, code := CC, pos := Z0, stack := FF }) := by kernel_rfl
theorem pb (w : World) : (fun os => segRun treeTable PP w 11 AN 1 1 { heap := heap_46 w.params, toks := 187, os := os } (blockOf BB EE CC Z0 FF)) = fun os => some (Flow.next, SharedT.abs (TT (tree_47 w.params) 15 187 os), CC, Z0) := by kernel_rfl
theorem p1 (w : World) : (fun os => segRunT treeTable PP w 11 AN 1 193 (TT (tree_47 w.params) 15 187 os) (piecesOf L1 EE CC Z0 FF)) = fun os => some (Flow.next, TT (tree_85 w.params) 50 248 os, CC, A1) := by kernel_rfl
theorem p2 (w : World) : (fun os => segRunT treeTable PP w 11 AN 1 568 (TT (tree_85 w.params) 50 248 os) (piecesOf L2 EE CC A1 FF)) = fun os => some (Flow.next, TT (tree_181 w.params) 144 362 os, CC, A2) := by kernel_rfl
theorem p3 (w : World) : (fun os => segRunT treeTable PP w 11 AN 1 10 (TT (tree_181 w.params) 144 362 os) (piecesOf L3 EE CC A2 FF)) = fun os => some (Flow.next, TT (tree_182 w.params) 144 364 os, CC, A3) := by kernel_rfl
theorem p4 (w : World) : (fun os => segRunT treeTable PP w 11 AN 1 421 (TT (tree_182 w.params) 144 364 os) (piecesOf L4 EE CC A3 FF)) = fun os => some (Flow.next, TT (tree_243 w.params) 201 429 os, CC, A4) := by kernel_rfl
theorem p5 (w : World) : (fun os => segRunT treeTable PP w 11 AN 1 283 (TT (tree_243 w.params) 201 429 os) (piecesOf L5 EE CC A4 FF)) = fun os => some (Flow.next, TT (tree_299 w.params) 255 500 os, CC, A5) := by kernel_rfl
theorem pe (w : World) : (fun os => topRun treeTable PP w 11 AN 2 (SharedT.abs (TT (tree_299 w.params) 255 500 os)) { cur := doneF Flow.next, code := CC, pos := A5, stack := FF }) = fun os => some { heap := heap_300 w.params, toks := 500, os := os } := by kernel_rfl
theorem run_all (w : World) (os : OsState) : topRun treeTable PP w 11 AN (Nat.add 12 (Nat.add 1 (Nat.add 193 (Nat.add 568 (Nat.add 10 (Nat.add 421 (Nat.add 283 2))))))) { heap := boot_heap w.params, drawn := boot_drawn, toks := boot_toks, os := os } (topStub PP) = some { heap := heap_300 w.params, toks := 500, os := os } := by
  refine go_top (congrFun (p0 w) os) (piece_block (congrFun (pb w) os) ?_)
  have e : restOf BB EE CC Z0 FF = restOf (L1 ++ (L2 ++ (L3 ++ (L4 ++ (L5 ++ []))))) EE CC Z0 FF := congrArg (fun l => restOf l EE CC Z0 FF) body_eq
  rw [e]
  exact piece_app (segRun_of (congrFun (p1 w) os)) (piece_app (segRun_of (congrFun (p2 w) os)) (piece_app (segRun_of (congrFun (p3 w) os)) (piece_app (segRun_of (congrFun (p4 w) os)) (piece_app (segRun_of (congrFun (p5 w) os)) (piece_nil (congrFun (pe w) os))))))
theorem open_plain : opening PP = plainProg PP.main.scope.names := by kernel_rfl
theorem open_fence (s : Shared) : fenceModules? PP s = some s := by kernel_rfl
theorem size_ok (w : World) : ((boot_heap w.params).isNs mainGlobals && (Array.mk [] : Array GenState).size == 0, (boot_heap w.params).objs.size, (boot_heap w.params).nsMap mainGlobals "__annotations__") = (true, 11, AN) := by kernel_rfl
noncomputable abbrev HF (w : World) (os : OsState) : Shared := { heap := heap_300 w.params, toks := 500, os := os }
theorem look1 (w : World) (os : OsState) : (staticsOk (importedModules PP.main.body) (boot_heap w.params) (heap_300 w.params) && namesBound PP (heap_300 w.params) && gensDone (HF w os) && laidKept (boot_heap w.params) (heap_300 w.params)) = true := by kernel_rfl
theorem look2 (w : World) (os : OsState) : openSeen VV LO (importedModules PP.main.body) XT true (HF w os) = openGood VV LO := by kernel_rfl
theorem look3 (w : World) (os : OsState) : Hook.obs HH (HF w os) = Hook.val HH w := by kernel_rfl
theorem left_pieces : LeftO PP VV LO XT (Hook.obs HH) (Hook.val HH) 3066 :=
  LeftO.of_pieces (H₀ := boot_heap) (H₁ := heap_300) (gs₀ := Array.mk []) (gs₁ := Array.mk []) (d₀ := boot_drawn) (d₁ := {}) (k₀ := boot_toks) (k₁ := 500) (m₀ := 11) (ann := AN) (M := Nat.add 12 (Nat.add 1 (Nat.add 193 (Nat.add 568 (Nat.add 10 (Nat.add 421 (Nat.add 283 2)))))))
    (boot_open open_plain (by decide) open_fence) size_ok run_all (by decide) (fun w => funext fun os => Prod.ext (look1 w os) (Prod.ext (look2 w os) (look3 w os)))
end RM
end
noncomputable section
set_option maxRecDepth 100000
namespace RM
theorem law_said : PySem.Challenge.rw_au0004_01.wellSaid = true := by
  unfold OpenLaw.wellSaid OpenRow.wellSaid OpenRow.partSaid looksOpen
  simp only [Bool.and_eq_true]
  repeat' apply And.intro
  all_goals decide +kernel
theorem law_ok : (chainsOk VV && opensWell PP && (frees (OpenRow.toRowW PySem.Challenge.rw_au0004_01.row) && (OpenRow.toRowW PySem.Challenge.rw_au0004_01.row).within.isEmpty)) = true := by decide +kernel
end RM
end
set_option maxRecDepth 100000 in
set_option maxHeartbeats 8000000 in
theorem PySem.Challenge.cw_au0004_01_holds : PySem.Challenge.rw_au0004_01.Holds := by
  w_on
  refine holds_law RM.law_said fun said => ?_
  refine holds_open (q := RM.VV) (loose := RM.LO) (Xt := RM.XT) (XP := XL RM.VV []) (Yf := Hook.obs RM.HH) (Ya := Hook.val RM.HH) (YP := Hook.says RM.HH) (N := 3066) RM.left_pieces (Hook.of RM.HH) (Hook.keeps RM.HH) (fun s e => xl_of s (Bool.and_eq_true_iff.mp e).1) XL.keeps (by rfl) (by rfl) (by rfl) (fun s e => recFacts_of (Bool.and_eq_true_iff.mp e).2) (by rfl) (by first | assumption | decide +kernel) RM.law_ok ⟨rfl, rfl, rfl, rfl, rfl, by decide +kernel⟩ ?hw ?hc
  case hw => w_witness2
  w_strict (
    intro w s₀ s₁ mg mb G Y fa o pm cd doc dV kV ho hd hcd hD hmg hg args vals as hpre hlay hrd hwl hlo
    have KX := kIn_of Y
    refine Ground.open G ?_
    intro T B D TE TW
    clear hmg
    wrow_args hpre hlay hrd hwl hlo
    refine enter_call ?_
    w_top on
    refine codeAny_mono ?_ (fun _ _ g => GoodW.toG g)
    w_call any ho hd hcd hD T F
    refine' RM.law_join ?jKX ?jKH ?jG ?jB ?jhb ?jhn ?jhs ?jhg ?jF ?jhm ?jhl ?jhI ?jhlen ?jN ?jhc ?jhQ
    case jKX => assumption
    case jKH =>
      refine ⟨?_, ?_, ?_, ?_⟩ <;> constructor
      all_goals first
        | kernel_rfl
        | (intro v; kernel_rfl)
        | (intro v u; kernel_rfl)
        | (intro v u x y; kernel_rfl)
        | (constructor <;> kernel_rfl)
    case jG => exact Top.g (by assumption)
    case jB => exact Top.b (by assumption)
    case jhb => exact Top.builtins (by assumption)
    case jhn => exact Top.nolimit (by assumption)
    case jhs => exact Top.seer (by assumption) (by decide +kernel)
    case jhg => assumption
    case jF => assumption
    case jhl => assumption
    case jhI => assumption
    case jhlen => omega
    case jhm => rfl
    case jN => assumption
    case jhc => exact ⟨_, by assumption⟩
    case jhQ =>
      intro s' K g o hm'
      obtain ⟨m', hm'⟩ := hm'
      show GoodW _ _ _ _ _ (.ok (.ret (.bool _))) _
      refine goodW_bool (L := _) (m := m') ⟨hm', K, Nat.le_refl _⟩ g (raisesW_false ?_) ?_ o
      · wrow_none_raised
      · wrow_post)
