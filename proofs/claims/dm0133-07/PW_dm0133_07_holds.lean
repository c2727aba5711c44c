import PyProof.Rows.All
import Wide.All
import OpenK.AllK
import Wide.FinOn
import KE.KItem
import KE.KDictIter
import KE.KEqDat
import KE.KSortTup
import PySem.Challenge.RW_dm0133_07
open PySem PySem.W PyProof.Rows PySem.Calls
set_option Elab.async false
set_option tactic.hygienic false
set_option compiler.extract_closed false
set_option genSizeOfSpec false
set_option maxRecDepth 100000
set_option maxHeartbeats 8000000
set_option linter.unusedVariables false
set_option linter.unusedSimpArgs false
namespace Mine
noncomputable def er : Value → Value
  | .int i _ => .int i 0
  | .float b _ => .float b 0
  | .str s _ => .str s 0
  | .bytes b _ => .bytes b 0
  | v => v

theorem no_some {α β : Type} {f : α → Option β} {a b : α} {x : β} (ha : f a = some x) (hb : f b = none) : a ≠ b := fun e => nomatch (ha.symm.trans ((congrArg f e).trans hb))
theorem two_ne {α β : Type} {f : α → β} {a b : α} {x y : β} (ha : f a = x) (hb : f b = y) (h : x ≠ y) : a ≠ b := fun e => h (ha.symm.trans ((congrArg f e).trans hb))
theorem hideG {P : Prop} (h : ∀ G : Prop, (P → G) → G) : P := h P id
theorem er_int {v : Value} {i : Int} (h : er v = .int i 0) : ∃ t, v = .int i t := by
  cases v <;> simp [er] at h; subst h; exact ⟨_, rfl⟩
theorem er_ref {v : Value} {a : Addr} (h : er v = .ref a) : v = .ref a := by
  cases v <;> simp [er] at h; subst h; rfl
theorem er_bool {v : Value} {b : Bool} (h : er v = .bool b) : v = .bool b := by
  cases v <;> simp [er] at h; subst h; rfl
theorem er_none {v : Value} (h : er v = .none) : v = .none := by
  cases v <;> simp [er] at h; rfl
theorem er_builtin {v : Value} {n : String} (h : er v = .builtin n) : v = .builtin n := by
  cases v <;> simp [er] at h; subst h; rfl
theorem er_type {v : Value} {n : String} (h : er v = .type n) : v = .type n := by
  cases v <;> simp [er] at h; subst h; rfl

inductive An3 (p1 p2 p3 : Prop) : Prop
  | mk (h1 : p1) (h2 : p2) (h3 : p3) : An3 p1 p2 p3
inductive An4 (p1 p2 p3 p4 : Prop) : Prop
  | mk (h1 : p1) (h2 : p2) (h3 : p3) (h4 : p4) : An4 p1 p2 p3 p4
inductive An5 (p1 p2 p3 p4 p5 : Prop) : Prop
  | mk (h1 : p1) (h2 : p2) (h3 : p3) (h4 : p4) (h5 : p5) : An5 p1 p2 p3 p4 p5
inductive An6 (p1 p2 p3 p4 p5 p6 : Prop) : Prop
  | mk (h1 : p1) (h2 : p2) (h3 : p3) (h4 : p4) (h5 : p5) (h6 : p6) : An6 p1 p2 p3 p4 p5 p6
inductive An7 (p1 p2 p3 p4 p5 p6 p7 : Prop) : Prop
  | mk (h1 : p1) (h2 : p2) (h3 : p3) (h4 : p4) (h5 : p5) (h6 : p6) (h7 : p7) : An7 p1 p2 p3 p4 p5 p6 p7
inductive An8 (p1 p2 p3 p4 p5 p6 p7 p8 : Prop) : Prop
  | mk (h1 : p1) (h2 : p2) (h3 : p3) (h4 : p4) (h5 : p5) (h6 : p6) (h7 : p7) (h8 : p8) : An8 p1 p2 p3 p4 p5 p6 p7 p8
inductive An9 (p1 p2 p3 p4 p5 p6 p7 p8 p9 : Prop) : Prop
  | mk (h1 : p1) (h2 : p2) (h3 : p3) (h4 : p4) (h5 : p5) (h6 : p6) (h7 : p7) (h8 : p8) (h9 : p9) : An9 p1 p2 p3 p4 p5 p6 p7 p8 p9
inductive An10 (p1 p2 p3 p4 p5 p6 p7 p8 p9 p10 : Prop) : Prop
  | mk (h1 : p1) (h2 : p2) (h3 : p3) (h4 : p4) (h5 : p5) (h6 : p6) (h7 : p7) (h8 : p8) (h9 : p9) (h10 : p10) : An10 p1 p2 p3 p4 p5 p6 p7 p8 p9 p10
inductive An11 (p1 p2 p3 p4 p5 p6 p7 p8 p9 p10 p11 : Prop) : Prop
  | mk (h1 : p1) (h2 : p2) (h3 : p3) (h4 : p4) (h5 : p5) (h6 : p6) (h7 : p7) (h8 : p8) (h9 : p9) (h10 : p10) (h11 : p11) : An11 p1 p2 p3 p4 p5 p6 p7 p8 p9 p10 p11
inductive An12 (p1 p2 p3 p4 p5 p6 p7 p8 p9 p10 p11 p12 : Prop) : Prop
  | mk (h1 : p1) (h2 : p2) (h3 : p3) (h4 : p4) (h5 : p5) (h6 : p6) (h7 : p7) (h8 : p8) (h9 : p9) (h10 : p10) (h11 : p11) (h12 : p12) : An12 p1 p2 p3 p4 p5 p6 p7 p8 p9 p10 p11 p12
inductive Ex2 {a1 a2 : Type} (p : a1 → a2 → Prop) : Prop
  | mk (x1 : a1) (x2 : a2) (h : p x1 x2) : Ex2 p
inductive Ex3 {a1 a2 a3 : Type} (p : a1 → a2 → a3 → Prop) : Prop
  | mk (x1 : a1) (x2 : a2) (x3 : a3) (h : p x1 x2 x3) : Ex3 p
inductive Ex4 {a1 a2 a3 a4 : Type} (p : a1 → a2 → a3 → a4 → Prop) : Prop
  | mk (x1 : a1) (x2 : a2) (x3 : a3) (x4 : a4) (h : p x1 x2 x3 x4) : Ex4 p
inductive Ex5 {a1 a2 a3 a4 a5 : Type} (p : a1 → a2 → a3 → a4 → a5 → Prop) : Prop
  | mk (x1 : a1) (x2 : a2) (x3 : a3) (x4 : a4) (x5 : a5) (h : p x1 x2 x3 x4 x5) : Ex5 p
inductive Ex6 {a1 a2 a3 a4 a5 a6 : Type} (p : a1 → a2 → a3 → a4 → a5 → a6 → Prop) : Prop
  | mk (x1 : a1) (x2 : a2) (x3 : a3) (x4 : a4) (x5 : a5) (x6 : a6) (h : p x1 x2 x3 x4 x5 x6) : Ex6 p
inductive Ex7 {a1 a2 a3 a4 a5 a6 a7 : Type} (p : a1 → a2 → a3 → a4 → a5 → a6 → a7 → Prop) : Prop
  | mk (x1 : a1) (x2 : a2) (x3 : a3) (x4 : a4) (x5 : a5) (x6 : a6) (x7 : a7) (h : p x1 x2 x3 x4 x5 x6 x7) : Ex7 p
inductive AO where
  | list (xs : List Value)
  | blist (xs : List Value)
  | tuple (xs : List Value)
  | dict (es : List (Int × Value)) (ep : Nat)
  | set (xs : List Int)
  | inst (c d : Addr) (fs : List (Str × Value)) (sl : List (Option Value))
  | hid (owner : Addr)
  | liter (l : Addr) (i : Nat)
  | obj (x : Obj)
  | range (i j k : Int)
  | slice (lo hi : Option Int)

noncomputable abbrev AH := Addr → Option AO
noncomputable abbrev Loc := Str → Option Value

set_option genInjectivity false in
structure Cx where
  prog : Program
  w : World
  h₀ : Heap
  K : Frag
  mg : Str → Option Value
  mb : Str → Option Value
  pin : ∃ o, h₀.get? mainGlobals = some o
  fr : List Addr

set_option genInjectivity false in
set_option genInjectivity false in
structure Cx.Ok (C : Cx) : Prop where
  kin : C.K.In C.h₀
  g : C.h₀.Ns mainGlobals C.mg
  b : C.h₀.Ns builtinsNs C.mb
  lim : C.h₀.NoLimit
  blt : ∀ x : Str, x ≠ "__name__" → C.mb x = bootBuiltins x

noncomputable def Rep (C : Cx) (h : Heap) (a : Addr) : AO → Prop
  | .list xs => ∃ vs n, h.get? a = some { cls := .type "list", data := .seq vs n } ∧ vs.toList.map er = xs
  | .blist xs => ∃ vs, h.IsList a vs ∧ vs.toList.map er = xs
  | .tuple xs => ∃ vs n, h.get? a = some { cls := .type "tuple", data := .seq vs n } ∧ vs.toList.map er = xs
  | .dict es ep => ∃ kvs, h.DictAt (intKind C.prog C.w) a kvs ep ∧ kvs.map (fun kv => (kv.1, er kv.2)) = es
  | .set xs => h.SetOf (intKind C.prog C.w) a (fun k => decide (k ∈ xs)) xs.length
  | .inst c d fs sl => ∃ o mA, h.get? a = some o ∧ o.cls = .ref c ∧ (∀ c', o.data ≠ .cls c') ∧ o.dict = some d ∧ d ≠ a ∧ h.Ns1 d mA ∧ (∀ y, (mA y).map er = fs.lookup y) ∧ o.slots.toList.map (Option.map er) = sl
  | .hid _ => ∃ o, h.get? a = some o
  | .liter l i => h.IsListIter a l i
  | .obj x => h.get? a = some x
  | .range i j k => ∃ t u v, IsRange h a i j k t u v
  | .slice lo hi => ∃ vl vu, h.IsSliceOf a vl vu .none ∧ IsPart vl lo ∧ IsPart vu hi

set_option genInjectivity false in
structure Rel (C : Cx) (H : AH) (s : Shared) : Prop where
  keep : ∀ b o, C.h₀.get? b = some o → s.heap.get? b = some o
  rep : ∀ a o, H a = some o → Rep C s.heap a o
  low : ∀ a o, H a = some o → (C.h₀.get? a = none ∧ a ≠ sysModules) ∨ ∃ xs, o = .blist xs
  hid : ∀ a c d fs sl, H a = some (.inst c d fs sl) → H d = some (.hid a)
  live : ∀ L ∈ C.fr, (∃ o, s.heap.get? L = some o ∧ ∀ vs, o.data ≠ .fields vs) ∧ H L = none ∧ C.h₀.get? L = none

theorem Rep.alive {C : Cx} {h : Heap} {a : Addr} {o : AO} (r : Rep C h a o) : ∃ x, h.get? a = some x := by
  cases o with
  | list xs => exact let ⟨vs, n, e, _⟩ := r; ⟨_, e⟩
  | blist xs => exact let ⟨vs, ⟨o, e, _⟩, _⟩ := r; ⟨_, e⟩
  | tuple xs => exact let ⟨vs, n, e, _⟩ := r; ⟨_, e⟩
  | dict es ep =>
    obtain ⟨kvs, h1, _⟩ := r
    obtain ⟨o, es, ep, e, _⟩ := h1.dictOf.mapOf
    exact ⟨_, e⟩
  | set xs =>
    obtain ⟨o, es, ep, t, e, _⟩ := r
    exact ⟨_, e⟩
  | inst c d fs sl => exact let ⟨o, mA, e, _⟩ := r; ⟨_, e⟩
  | hid b => exact r
  | liter l i => exact let ⟨o, e, _⟩ := r; ⟨_, e⟩
  | obj i => exact ⟨_, r⟩
  | range i j k => exact let ⟨t, u, v, e⟩ := r; ⟨_, e⟩
  | slice lo hi => exact let ⟨vl, vu, ⟨o, e, _⟩, _⟩ := r; ⟨_, e⟩

noncomputable def AO.foot (a : Addr) : AO → List Addr
  | .inst _ d _ _ => [a, d]
  | _ => [a]

theorem Rep.at {C : Cx} {h h' : Heap} {a : Addr} {o : AO} (r : Rep C h a o) (k : ∀ b ∈ o.foot a, ∀ x, h.get? b = some x → h'.get? b = some x) : Rep C h' a o := by
  cases o with
  | list xs => obtain ⟨vs, n, e, q⟩ := r; exact ⟨vs, n, k a (by simp [AO.foot]) _ e, q⟩
  | blist xs => obtain ⟨vs, ⟨o, e, p⟩, q⟩ := r; exact ⟨vs, ⟨o, k a (by simp [AO.foot]) _ e, p⟩, q⟩
  | tuple xs => obtain ⟨vs, n, e, q⟩ := r; exact ⟨vs, n, k a (by simp [AO.foot]) _ e, q⟩
  | dict es ep => obtain ⟨kvs, ⟨o, es, e, p⟩, q⟩ := r; exact ⟨kvs, ⟨o, es, k a (by simp [AO.foot]) _ e, p⟩, q⟩
  | set xs => obtain ⟨o, es, ep, t, e, p⟩ := r; exact ⟨o, es, ep, t, k a (by simp [AO.foot]) _ e, p⟩
  | inst c d fs sl =>
    obtain ⟨o, mA, e, e1, e2, e3, e4, e5, e6⟩ := r
    exact ⟨o, mA, k a (by simp [AO.foot]) _ e, e1, e2, e3, e4, e5.at (k d (by simp [AO.foot])), e6⟩
  | hid b => obtain ⟨x, e⟩ := r; exact ⟨x, k a (by simp [AO.foot]) _ e⟩
  | liter l i => obtain ⟨o, e, q⟩ := r; exact ⟨o, k a (by simp [AO.foot]) _ e, q⟩
  | obj i => exact k a (by simp [AO.foot]) _ r
  | range i j l => obtain ⟨t, u, v, e⟩ := r; exact ⟨t, u, v, k a (by simp [AO.foot]) _ e⟩
  | slice lo hi => obtain ⟨vl, vu, ⟨o, e, p⟩, q⟩ := r; exact ⟨vl, vu, ⟨o, k a (by simp [AO.foot]) _ e, p⟩, q⟩

set_option genInjectivity false in
structure Fm where
  env : Env
  ow : List Addr

noncomputable def isC (env : Env) (x : Str) : Prop := env.kindOf x = some .cell ∨ env.kindOf x = some .free

set_option genInjectivity false in
structure FrOk (C : Cx) (f : Fm) (L : Loc) (H : AH) (h : Heap) : Prop where
  kind : f.env.scope.kind = .function
  glob : f.env.globals = mainGlobals ∧ f.env.builtins = builtinsNs
  ns : ∃ m, h.Ns f.env.locals m ∧ ∀ x, f.env.kindOf x = some .local → (m x).map er = L x
  cell : ∀ x, isC f.env x → ∃ c v, f.env.cells.lookup x = some c ∧ h.IsCell c v ∧ v.map er = L x
  inj : ∀ x y c, isC f.env x → isC f.env y → f.env.cells.lookup x = some c → f.env.cells.lookup y = some c → x = y
  apart : ∀ x c, isC f.env x → f.env.cells.lookup x = some c → c ≠ f.env.locals
  low : C.h₀.get? f.env.locals = none ∧ ∀ x c, isC f.env x → f.env.cells.lookup x = some c → C.h₀.get? c = none
  off : H f.env.locals = none ∧ ∀ x c, isC f.env x → f.env.cells.lookup x = some c → H c = none
  own : ∀ a ∈ f.ow, a = f.env.locals ∨ ∃ x, isC f.env x ∧ f.env.cells.lookup x = some a

noncomputable def Kept (fr ow : List Addr) (H H' : AH) (h h' : Heap) : Prop :=
  ∀ a o, h.get? a = some o → H a = none → a ∉ ow → (∃ o', h'.get? a = some o' ∧ o'.data = o.data ∧ (a ∉ fr → o' = o)) ∧ H' a = none
theorem Kept.mk {fr ow : List Addr} {H H' : AH} {h h' : Heap} (k : ∀ a o, h.get? a = some o → H a = none → a ∉ ow → h'.get? a = some o ∧ H' a = none) : Kept fr ow H H' h h' :=
  fun a o e q n => ⟨⟨o, (k a o e q n).1, rfl, fun _ => rfl⟩, (k a o e q n).2⟩
theorem Kept.at {fr ow : List Addr} {H H' : AH} {h h' : Heap} (k : Kept fr ow H H' h h') {a : Addr} {o : Obj} (e : h.get? a = some o) (q : H a = none) (n : a ∉ ow) (nf : a ∉ fr) : h'.get? a = some o ∧ H' a = none := by
  obtain ⟨⟨o', e1, e2, e3⟩, q'⟩ := k a o e q n
  rw [e3 nf] at e1; exact ⟨e1, q'⟩

theorem Kept.refl {fr ow : List Addr} {H : AH} {h : Heap} : Kept fr ow H H h h := .mk fun _ _ e q _ => ⟨e, q⟩
theorem Kept.trans {fr ow : List Addr} {H H' H'' : AH} {h h' h'' : Heap} (x : Kept fr ow H H' h h') (y : Kept fr ow H' H'' h' h'') : Kept fr ow H H'' h h'' := by
  intro a o e q n
  obtain ⟨⟨o1, e1, d1, f1⟩, q1⟩ := x a o e q n
  obtain ⟨⟨o2, e2, d2, f2⟩, q2⟩ := y a o1 e1 q1 n
  exact ⟨⟨o2, e2, d2.trans d1, fun nf => (f2 nf).trans (f1 nf)⟩, q2⟩
theorem Kept.weak {fr ow ow' : List Addr} {H H' : AH} {h h' : Heap} (x : Kept fr ow H H' h h') (s : ∀ a ∈ ow, a ∈ ow') : Kept fr ow' H H' h h' :=
  fun a o e q n => x a o e q fun m => n (s a m)

set_option genInjectivity false in
structure Still (s s' : Shared) : Prop where
  gens : s'.gens = s.gens
  os : s'.os = s.os
theorem Still.refl {s : Shared} : Still s s := ⟨rfl, rfl⟩
theorem Still.trans {s s' s'' : Shared} (x : Still s s') (y : Still s' s'') : Still s s'' := ⟨y.gens.trans x.gens, y.os.trans x.os⟩

inductive TO {α : Type} (C : Cx) (f : Fm) (H : AH) (s : Shared) (Q : α → Loc → AH → Prop) (v : α) (s' : Shared) : Prop
  | mk (L' : Loc) (H' : AH) (R : Rel C H' s') (F : FrOk C f L' H' s'.heap) (k : Kept C.fr f.ow H H' s.heap s'.heap) (st : Still s s') (q : Q v L' H')
inductive PO {α : Type} (C : Cx) (H : AH) (s : Shared) (Q : α → AH → Prop) (v : α) (s' : Shared) : Prop
  | mk (H' : AH) (R : Rel C H' s') (k : Kept C.fr [] H H' s.heap s'.heap) (st : Still s s') (q : Q v H')
noncomputable def TW {α : Type} (C : Cx) (A : Around) (E : Value → Shared → Prop) (f : Fm) (t : Sem α) (L : Loc) (H : AH) (Q : α → Loc → AH → Prop) : Prop :=
  ∀ s, Rel C H s → FrOk C f L H s.heap → wpAny (model C.prog C.w) A t
    (TO C f H s Q) E s

noncomputable def PW {α : Type} (C : Cx) (A : Around) (E : Value → Shared → Prop) (t : Sem α) (H : AH) (Q : α → AH → Prop) : Prop :=
  ∀ s, Rel C H s → wpAny (model C.prog C.w) A t
    (PO C H s Q) E s

section
variable {α β : Type} {C : Cx} {A : Around} {E : Value → Shared → Prop} {f : Fm} {L : Loc} {H : AH}

theorem FrOk.keeps {H' : AH} {h h' : Heap} (F : FrOk C f L H h) (k : Kept C.fr [] H H' h h') : FrOk C f L H' h' := by
  obtain ⟨kind, glob, ⟨m, n, nl⟩, cell, inj, apart, low, off, own⟩ := F
  refine ⟨kind, glob, ⟨m, ?_, nl⟩, fun x hx => ?_, inj, apart, low, ⟨?_, fun x c hx hc => ?_⟩, own⟩
  · obtain ⟨o, es, ep, e, hd, r⟩ := n
    obtain ⟨⟨o', e', d', _⟩, _⟩ := k _ o e off.1 (by simp)
    exact ⟨o', es, ep, e', d'.trans hd, r⟩
  · obtain ⟨c, v, e1, ⟨o, e2, e3⟩, e4⟩ := cell x hx
    obtain ⟨⟨o', e', d', _⟩, _⟩ := k _ o e2 (off.2 x c hx e1) (by simp)
    exact ⟨c, v, e1, ⟨o', e', d'.trans e3⟩, e4⟩
  · obtain ⟨o, es, ep, e, _⟩ := n
    exact (k _ o e off.1 (by simp)).2
  · obtain ⟨c', v, e1, ⟨o, e2, e3⟩, e4⟩ := cell x hx
    rw [e1] at hc; cases hc
    exact (k _ o e2 (off.2 x _ hx e1) (by simp)).2

theorem TW.of_PW {t : Sem α} {Q : α → Loc → AH → Prop} (h : PW C A E t H (fun v H' => Q v L H')) : TW C A E f t L H Q := by
  intro s R F
  refine wpAny_mono (h s R) (fun v s' ⟨H', R', k, st, q⟩ => ⟨L, H', R', F.keeps k, k.weak (by simp), st, q⟩) fun _ _ e => e

theorem TW.bind {t : Sem α} {g : α → Sem β} {Q : β → Loc → AH → Prop} (h : TW C A E f t L H fun v L' H' => TW C A E f (g v) L' H' Q) : TW C A E f (t >>= g) L H Q := by
  intro s R F
  refine wpAny_bind (wpAny_mono (h s R F) (fun v s' ⟨L', H', R', F', k, st, q⟩ => ?_) fun _ _ e => e)
  exact wpAny_mono (q s' R' F') (fun u s'' ⟨L'', H'', R'', F'', k', st', q'⟩ => ⟨L'', H'', R'', F'', k.trans k', st.trans st', q'⟩) fun _ _ e => e
theorem PW.bind {t : Sem α} {g : α → Sem β} {Q : β → AH → Prop} (h : PW C A E t H fun v H' => PW C A E (g v) H' Q) : PW C A E (t >>= g) H Q := by
  intro s R
  refine wpAny_bind (wpAny_mono (h s R) (fun v s' ⟨H', R', k, st, q⟩ => ?_) fun _ _ e => e)
  exact wpAny_mono (q s' R') (fun u s'' ⟨H'', R'', k', st', q'⟩ => ⟨H'', R'', k.trans k', st.trans st', q'⟩) fun _ _ e => e
theorem TW.pure {a : α} {Q : α → Loc → AH → Prop} (h : Q a L H) : TW C A E f (Pure.pure a) L H Q :=
  fun _ R F => wpAny_pure ⟨L, H, R, F, .refl, .refl, h⟩
theorem PW.pure {a : α} {Q : α → AH → Prop} (h : Q a H) : PW C A E (Pure.pure a) H Q :=
  fun _ R => wpAny_pure ⟨H, R, .refl, .refl, h⟩
theorem TW.mono {t : Sem α} {Q Q' : α → Loc → AH → Prop} (h : TW C A E f t L H Q) (k : ∀ v L' H', Q v L' H' → Q' v L' H') : TW C A E f t L H Q' :=
  fun s R F => wpAny_mono (h s R F) (fun v s' ⟨L', H', R', F', kk, st, q⟩ => ⟨L', H', R', F', kk, st, k _ _ _ q⟩) fun _ _ e => e
theorem TW.standAt {p : Pos} {g : Unit → Sem β} {Q : β → Loc → AH → Prop} (h : TW C A E f (g ()) L H Q) : TW C A E f (PySem.standAt p >>= g) L H Q :=
  fun s R F => wpAny_bind (wpAny_standAt (h s R F))
theorem TW.holding {vs : List Value} {t : Sem α} {Q : α → Loc → AH → Prop} (h : TW C A E f t L H Q) : TW C A E f (PySem.holding vs t) L H Q :=
  fun s R F => wpAny_holding (h s R F)
theorem PW.mono {t : Sem α} {Q Q' : α → AH → Prop} (h : PW C A E t H Q) (k : ∀ v H', Q v H' → Q' v H') : PW C A E t H Q' :=
  fun s R => wpAny_mono (h s R) (fun _ _ ⟨H', R', kk, st, q⟩ => ⟨H', R', kk, st, k _ _ q⟩) fun _ _ e => e
theorem wpAny_operate {M : Model} {ops : List Value} {m : Sem Value} {Q : Value → Shared → Prop} {s : Shared} (h : wpAny M A m Q E s) : wpAny M A (operate ops m) Q E s :=
  fun Γ p hΓ => by rw [Sem.wp_operate]; exact h Γ p hΓ
theorem TW.operate {ops : List Value} {m : Sem Value} {Q : Value → Loc → AH → Prop} (h : TW C A E f m L H Q) : TW C A E f (PySem.operate ops m) L H Q :=
  fun s R F => wpAny_operate (h s R F)
theorem Rel.toks {s : Shared} (R : Rel C H s) (t : Nat) : Rel C H { s with toks := t } := ⟨R.keep, R.rep, R.low, R.hid, R.live⟩
end

noncomputable abbrev EW (C : Cx) (A : Around) (E : Value → Shared → Prop) (f : Fm) (e : Expr) (L : Loc) (H : AH) (Q : Value → Loc → AH → Prop) : Prop :=
  TW C A E f (eval e f.env) L H (fun v => Q (er v))
noncomputable abbrev BW (C : Cx) (A : Around) (E : Value → Shared → Prop) (f : Fm) (e : Expr) (L : Loc) (H : AH) (Q : Bool → Loc → AH → Prop) : Prop :=
  TW C A E f (isTrue e f.env (eval e f.env)) L H Q
noncomputable abbrev SW (C : Cx) (A : Around) (E : Value → Shared → Prop) (f : Fm) (ss : List Stmt) (L : Loc) (H : AH) (Q : Flow → Loc → AH → Prop) : Prop :=
  TW C A E f (execs ss f.env) L H Q
noncomputable def P1 (C : Cx) (A : Around) (E : Value → Shared → Prop) {β : Type} (g : Value → Sem β) (a : Value) (H : AH) (Q : β → AH → Prop) : Prop :=
  ∀ a', er a' = a → PW C A E (g a') H Q
noncomputable def P2 (C : Cx) (A : Around) (E : Value → Shared → Prop) {β : Type} (g : Value → Value → Sem β) (a b : Value) (H : AH) (Q : β → AH → Prop) : Prop :=
  ∀ a' b', er a' = a → er b' = b → PW C A E (g a' b') H Q
noncomputable def PL (C : Cx) (A : Around) (E : Value → Shared → Prop) {β : Type} (g : List Value → Sem β) (as : List Value) (H : AH) (Q : β → AH → Prop) : Prop :=
  ∀ as', as'.map er = as → PW C A E (g as') H Q

section
variable {C : Cx} {A : Around} {E : Value → Shared → Prop} {f : Fm} {L : Loc} {H : AH}

theorem EW.cint {i : Int} {k : Nat} {p : Pos} {Q : Value → Loc → AH → Prop} (h : Q (.int i 0) L H) : EW C A E f (.Constant (.int i) k p) L H Q :=
  fun s R F => wpAny_Constant_int ⟨L, H, R.toks _, F, .refl, ⟨rfl, rfl⟩, h⟩
theorem EW.cbool {b : Bool} {k : Nat} {p : Pos} {Q : Value → Loc → AH → Prop} (h : Q (.bool b) L H) : EW C A E f (.Constant (.bool b) k p) L H Q :=
  TW.pure h
theorem EW.cnone {k : Nat} {p : Pos} {Q : Value → Loc → AH → Prop} (h : Q .none L H) : EW C A E f (.Constant .none k p) L H Q :=
  TW.pure h

theorem map_some_er {m : Option Value} {v : Value} (h : m.map er = some v) : ∃ u, m = some u ∧ er u = v := by
  cases m with
  | none => cases h
  | some u => exact ⟨u, rfl, Option.some.inj h⟩

theorem TW.loadLocal {x : Str} {v : Value} {Q : Value → Loc → AH → Prop} (hk : f.env.kindOf x = some .local) (hv : L x = some v) (h : ∀ u, er u = v → Q u L H) :
    TW C A E f (loadName f.env x) L H Q := by
  intro s R F
  obtain ⟨m, n, nl⟩ := F.ns
  obtain ⟨u, e1, e2⟩ := map_some_er ((nl x hk).trans hv)
  exact wpAny_loadName_local F.kind hk n e1 ⟨L, H, R, F, .refl, .refl, h u e2⟩
theorem TW.loadCell {x : Str} {v : Value} {Q : Value → Loc → AH → Prop} (hk : f.env.kindOf x = some .cell) (hv : L x = some v) (h : ∀ u, er u = v → Q u L H) :
    TW C A E f (loadName f.env x) L H Q := by
  intro s R F
  obtain ⟨c, v', e1, e2, e3⟩ := F.cell x (.inl hk)
  obtain ⟨u, rfl, e5⟩ := map_some_er (e3.trans hv)
  exact wpAny_loadName_cell F.kind hk e1 e2 ⟨L, H, R, F, .refl, .refl, h u e5⟩
theorem TW.loadFree {x : Str} {v : Value} {Q : Value → Loc → AH → Prop} (hk : f.env.kindOf x = some .free) (hv : L x = some v) (h : ∀ u, er u = v → Q u L H)
    (hn : (x == ("__classdict__" : Str)) = false := by decide) :
    TW C A E f (loadName f.env x) L H Q := by
  intro s R F
  obtain ⟨c, v', e1, e2, e3⟩ := F.cell x (.inr hk)
  obtain ⟨u, rfl, e5⟩ := map_some_er (e3.trans hv)
  exact wpAny_loadName_free F.kind hk e1 e2 ⟨L, H, R, F, .refl, .refl, h u e5⟩ hn

theorem EW.local {x : Str} {p : Pos} {v : Value} {Q : Value → Loc → AH → Prop} (hk : f.env.kindOf x = some .local) (hv : L x = some v) (h : Q v L H)
    (hd : (x == ("__debug__" : Str)) = false := by decide) : EW C A E f (.Name x p) L H Q := by
  unfold EW; rw [eval_Name _ x p hd]; exact TW.standAt (TW.loadLocal hk hv fun u e => e ▸ h)
theorem EW.cell {x : Str} {p : Pos} {v : Value} {Q : Value → Loc → AH → Prop} (hk : f.env.kindOf x = some .cell) (hv : L x = some v) (h : Q v L H)
    (hd : (x == ("__debug__" : Str)) = false := by decide) : EW C A E f (.Name x p) L H Q := by
  unfold EW; rw [eval_Name _ x p hd]; exact TW.standAt (TW.loadCell hk hv fun u e => e ▸ h)
theorem EW.free {x : Str} {p : Pos} {v : Value} {Q : Value → Loc → AH → Prop} (hk : f.env.kindOf x = some .free) (hv : L x = some v) (h : Q v L H)
    (hd : (x == ("__debug__" : Str)) = false := by decide) (hn : (x == ("__classdict__" : Str)) = false := by decide) : EW C A E f (.Name x p) L H Q := by
  unfold EW; rw [eval_Name _ x p hd]; exact TW.standAt (TW.loadFree hk hv (fun u e => e ▸ h) hn)
theorem EW.global {x : Str} {p : Pos} {v : Value} {Q : Value → Loc → AH → Prop} (O : C.Ok) (hk : f.env.kindOf x = some .globalImplicit) (hv : C.mg x = some v) (h : Q (er v) L H)
    (hd : (x == ("__debug__" : Str)) = false := by decide) : EW C A E f (.Name x p) L H Q := by
  intro s R F
  refine Calls.Name_function_global F.kind hk (Calls.loadGlobal_global (mg := C.mg) ?_ hv ⟨L, H, R, F, .refl, .refl, h⟩) hd
  rw [F.glob.1]; exact O.g.keeps R.keep
theorem EW.builtin {x : Str} {p : Pos} {v : Value} {Q : Value → Loc → AH → Prop} (O : C.Ok) (hk : f.env.kindOf x = some .globalImplicit) (hv : C.mg x = none) (hb : bootBuiltins x = some v) (h : Q (er v) L H)
    (hne : x ≠ "__name__" := by decide) (hd : (x == ("__debug__" : Str)) = false := by decide) : EW C A E f (.Name x p) L H Q := by
  intro s R F
  refine Calls.Name_function_global F.kind hk (Calls.loadGlobal_builtin (mg := C.mg) (mb := C.mb) ?_ hv ?_ ((O.blt x hne).trans hb) ⟨L, H, R, F, .refl, .refl, h⟩) hd
  · rw [F.glob.1]; exact O.g.keeps R.keep
  · rw [F.glob.2]; exact O.b.keeps R.keep

noncomputable def setL (L : Loc) (x : Str) (v : Value) : Loc := fun y => if y = x then some v else L y

theorem Rel.but {s : Shared} {h' : Heap} {b : Addr} {tk : Nat} (R : Rel C H s) (hs : Heap.SameBut b s.heap h') (hb : H b = none) (lo : C.h₀.get? b = none) (hid : ∀ a c d fs sl, H a = some (.inst c d fs sl) → d ≠ b) (hal : ∃ o, h'.get? b = some o ∧ ∀ vs, o.data ≠ .fields vs) : Rel C H { s with heap := h', toks := tk } := by
  refine ⟨fun c o e => ?_, fun a o e => ?_, R.low, R.hid, fun l hl => ?_⟩
  · exact (hs.2 c (by first | exact no_some (lo) e | exact (no_some (lo) e).symm | exact no_some e (lo) | exact (no_some e (lo)).symm | exact two_ne (lo) e (by intro q; cases q; done) | exact (two_ne (lo) e (by intro q; cases q; done)).symm | (rintro rfl; rw [lo] at e; cases e))).trans (R.keep c o e)
  · refine (R.rep a o e).at fun c hc x hx => (hs.2 c ?_).trans hx
    rintro rfl
    cases o with
    | inst c' d fs sl =>
      simp only [AO.foot, List.mem_cons, List.not_mem_nil, or_false] at hc
      rcases hc with rfl | rfl
      · rw [e] at hb; cases hb
      · exact hid _ _ _ _ _ e rfl
    | _ => simp only [AO.foot, List.mem_singleton] at hc; subst hc; rw [e] at hb; cases hb
  · obtain ⟨⟨o, e, nd⟩, q⟩ := R.live l hl
    by_cases h : l = b
    · subst h; exact ⟨hal, q⟩
    · exact ⟨⟨o, (hs.2 l h).trans e, nd⟩, q⟩
theorem Rel.offHid {s : Shared} (R : Rel C H s) {b : Addr} (hb : H b = none) : ∀ a c d fs sl, H a = some (.inst c d fs sl) → d ≠ b := by
  rintro a c d fs sl e rfl
  rw [R.hid a c _ fs sl e] at hb; cases hb

theorem TW.storeLocal {x : Str} {v : Value} {Q : Unit → Loc → AH → Prop} (hk : f.env.kindOf x = some .local) (how : f.env.locals ∈ f.ow) (h : Q () (setL L x (er v)) H) :
    TW C A E f (storeName f.env x v) L H Q := by
  intro s R F
  obtain ⟨kind, glob, ⟨m, n, nl⟩, cell, inj, apart, low, off, own⟩ := F
  refine wpAny_storeName_local hk n (fun h' n' hs => ⟨_, H, R.but hs off.1 low.1 (R.offHid off.1) (by obtain ⟨o, es, ep, e, hdd, _⟩ := n'; exact ⟨o, e, fun vs q => by rw [hdd] at q; cases q⟩), ?_, ?_, ⟨rfl, rfl⟩, h⟩) (by rw [kind]; rfl)
  · refine ⟨kind, glob, ⟨_, n', fun y hy => ?_⟩, fun y hy => ?_, inj, apart, low, off, own⟩
    · dsimp only [setL]
      by_cases e : y = x
      · simp [e]
      · simp only [if_neg e]; exact nl y hy
    · obtain ⟨c, v', e1, e2, e3⟩ := cell y hy
      refine ⟨c, v', e1, e2.sameBut hs (apart y c hy e1), ?_⟩
      dsimp only [setL]
      have : y ≠ x := by rintro rfl; rcases hy with hy | hy <;> (rw [hk] at hy; cases hy)
      rw [if_neg this]; exact e3
  · refine .mk fun a o e q nm => ?_
    exact ⟨(hs.2 a (by rintro rfl; exact nm how)).trans e, q⟩
theorem TW.storeCell {x : Str} {v : Value} {Q : Unit → Loc → AH → Prop} (hk : f.env.kindOf x = some .cell) (how : ∀ c, f.env.cells.lookup x = some c → c ∈ f.ow) (h : Q () (setL L x (er v)) H) :
    TW C A E f (storeName f.env x v) L H Q := by
  intro s R F
  obtain ⟨kind, glob, ⟨m, n, nl⟩, cell, inj, apart, low, off, own⟩ := F
  obtain ⟨c, v', e1, e2, e3⟩ := cell x (.inl hk)
  refine wpAny_storeName_cell kind hk e1 e2 fun h' n' hs => ⟨_, H, (R.but (tk := s.toks) hs (off.2 x c (.inl hk) e1) (low.2 x c (.inl hk) e1) (R.offHid (off.2 x c (.inl hk) e1)) (by obtain ⟨o, e, hdd⟩ := n'; exact ⟨o, e, fun vs q => by rw [hdd] at q; cases q⟩)), ?_, ?_, ⟨rfl, rfl⟩, h⟩
  · refine ⟨kind, glob, ⟨m, n.sameBut hs (apart x c (.inl hk) e1).symm, fun y hy => ?_⟩, fun y hy => ?_, inj, apart, low, off, own⟩
    · dsimp only [setL]
      have : y ≠ x := by first | exact no_some (hk) hy | exact (no_some (hk) hy).symm | exact no_some hy (hk) | exact (no_some hy (hk)).symm | exact two_ne (hk) hy (by intro q; cases q; done) | exact (two_ne (hk) hy (by intro q; cases q; done)).symm | (rintro rfl; rw [hk] at hy; cases hy)
      rw [if_neg this]; exact nl y hy
    · by_cases e : y = x
      · subst e; exact ⟨c, some v, e1, n', by simp [setL]⟩
      · obtain ⟨c', w', q1, q2, q3⟩ := cell y hy
        refine ⟨c', w', q1, q2.sameBut hs ?_, ?_⟩
        · rintro rfl; exact e (inj y x _ hy (.inl hk) q1 e1)
        · simp only [setL, if_neg e]; exact q3
  · refine .mk fun a o e q nm => ?_
    exact ⟨(hs.2 a (by rintro rfl; exact nm (how _ e1))).trans e, q⟩
end

section
variable {α β : Type} {C : Cx} {A : Around} {E : Value → Shared → Prop} {f : Fm} {L : Loc} {H : AH}

theorem EW.binop {l r : Expr} {op : Operator} {p : Pos} {Q : Value → Loc → AH → Prop}
    (h : EW C A E f l L H fun a L1 H1 => EW C A E f r L1 H1 fun b L2 H2 => P2 C A E (binaryOp op) a b H2 fun v H3 => Q (er v) L2 H3) :
    EW C A E f (.BinOp l op r p) L H Q := by
  unfold EW; rw [eval_BinOp]
  exact TW.bind (h.mono fun a L1 H1 q => TW.bind (TW.holding (q.mono fun b L2 H2 q => TW.standAt (TW.operate (TW.of_PW (q a b rfl rfl))))))
theorem EW.compare {l r : Expr} {op : CmpOp} {p : Pos} {Q : Value → Loc → AH → Prop}
    (h : EW C A E f l L H fun a L1 H1 => EW C A E f r L1 H1 fun b L2 H2 => P2 C A E (compareOp op) a b H2 fun v H3 => Q (er v) L2 H3)
    (hm : behindInMarks op r = false := by with_unfolding_all rfl) :
    EW C A E f (.Compare l [op] [r] p) L H Q := by
  unfold EW; rw [eval_Compare1, markedBehindIn_of_false hm]
  exact TW.bind (h.mono fun a L1 H1 q => TW.bind (TW.holding (q.mono fun b L2 H2 q => TW.standAt (TW.operate (TW.of_PW (q a b rfl rfl))))))
theorem PW.truthy_bool {b : Bool} {Q : Bool → AH → Prop} (h : Q b H) : PW C A E (truthy (.bool b)) H Q :=
  fun s R => wpAny_truthy_bool ⟨H, R, .refl, .refl, h⟩
theorem BW.compare {l r : Expr} {op : CmpOp} {p : Pos} {Q : Bool → Loc → AH → Prop}
    (h : EW C A E f l L H fun a L1 H1 => EW C A E f r L1 H1 fun b L2 H2 => P2 C A E (compareOp op) a b H2 fun v H3 => ∃ c, v = .bool c ∧ Q c L2 H3)
    (hm : behindInMarks op r = false := by with_unfolding_all rfl) :
    BW C A E f (.Compare l [op] [r] p) L H Q := by
  unfold BW; rw [isTrue_Compare1, markedBehindIn_of_false hm]
  refine TW.bind (h.mono fun a L1 H1 q => TW.bind (TW.holding (q.mono fun b L2 H2 q => TW.standAt (TW.bind (TW.operate (TW.of_PW ((q a b rfl rfl).mono fun v H3 z => ?_)))))))
  obtain ⟨c, rfl, q⟩ := z
  exact TW.holding (TW.of_PW (PW.truthy_bool q))

noncomputable def plainTest : Expr → Bool
  | .UnaryOp .Not _ _ => false
  | .BoolOp _ _ _ => false
  | .IfExp _ _ _ _ => false
  | .Compare _ _ _ _ => false
  | _ => true
theorem isTrue_plain' {e : Expr} (env : Env) (w : Sem Value) (h : plainTest e = true) : isTrue e env w = (do let v ← w; standAt e.pos; holding [v] (truthy v)) := by
  cases e with
  | UnaryOp op x p => cases op <;> first | rfl | cases h
  | _ => first | rfl | cases h
theorem BW.plain {e : Expr} {Q : Bool → Loc → AH → Prop} (h : EW C A E f e L H fun v L1 H1 => P1 C A E truthy v H1 fun b H2 => Q b L1 H2) (hp : plainTest e = true := by rfl) :
    BW C A E f e L H Q := by
  unfold BW; rw [isTrue_plain' _ _ hp]
  exact TW.bind (h.mono fun v L1 H1 q => TW.standAt (TW.holding (TW.of_PW (q v rfl))))
theorem BW.not {e : Expr} {p : Pos} {Q : Bool → Loc → AH → Prop} (h : BW C A E f e L H fun b L1 H1 => Q (!b) L1 H1) : BW C A E f (.UnaryOp .Not e p) L H Q := by
  show TW C A E f (do return !(← isTrue e f.env (eval e f.env))) L H Q
  exact TW.bind (h.mono fun b L1 H1 q => TW.pure q)
theorem BW.and {x y : Expr} {rest : List Expr} {p : Pos} {Q : Bool → Loc → AH → Prop}
    (h : BW C A E f x L H fun b L1 H1 => if b then BW C A E f (.BoolOp .And (y :: rest) p) L1 H1 Q else Q false L1 H1) : BW C A E f (.BoolOp .And (x :: y :: rest) p) L H Q := by
  show TW C A E f (do match BoolOp.And, ← isTrue x f.env (eval x f.env) with | .And, false => pure false | .Or, true => pure true | _, _ => allTrue .And (y :: rest) f.env) L H Q
  refine TW.bind (h.mono fun b L1 H1 q => ?_)
  cases b with
  | true => exact q
  | false => exact TW.pure q
theorem BW.or {x y : Expr} {rest : List Expr} {p : Pos} {Q : Bool → Loc → AH → Prop}
    (h : BW C A E f x L H fun b L1 H1 => if b then Q true L1 H1 else BW C A E f (.BoolOp .Or (y :: rest) p) L1 H1 Q) : BW C A E f (.BoolOp .Or (x :: y :: rest) p) L H Q := by
  show TW C A E f (do match BoolOp.Or, ← isTrue x f.env (eval x f.env) with | .And, false => pure false | .Or, true => pure true | _, _ => allTrue .Or (y :: rest) f.env) L H Q
  refine TW.bind (h.mono fun b L1 H1 q => ?_)
  cases b with
  | false => exact q
  | true => exact TW.pure q
theorem BW.andLast {x : Expr} {p : Pos} {Q : Bool → Loc → AH → Prop} (h : BW C A E f x L H Q) : BW C A E f (.BoolOp .And [x] p) L H Q := by
  show TW C A E f (do match BoolOp.And, ← isTrue x f.env (eval x f.env) with | .And, false => pure false | .Or, true => pure true | _, _ => allTrue .And [] f.env) L H Q
  refine TW.bind (h.mono fun b L1 H1 q => ?_)
  cases b <;> exact TW.pure q
theorem BW.orLast {x : Expr} {p : Pos} {Q : Bool → Loc → AH → Prop} (h : BW C A E f x L H Q) : BW C A E f (.BoolOp .Or [x] p) L H Q := by
  show TW C A E f (do match BoolOp.Or, ← isTrue x f.env (eval x f.env) with | .And, false => pure false | .Or, true => pure true | _, _ => allTrue .Or [] f.env) L H Q
  refine TW.bind (h.mono fun b L1 H1 q => ?_)
  cases b <;> exact TW.pure q
theorem EW.and {x y : Expr} {rest : List Expr} {p : Pos} {Q : Value → Loc → AH → Prop}
    (h : EW C A E f x L H fun v L1 H1 => P1 C A E truthy v H1 fun b H2 => if b then EW C A E f (.BoolOp .And (y :: rest) p) L1 H2 Q else Q v L1 H2) : EW C A E f (.BoolOp .And (x :: y :: rest) p) L H Q := by
  show TW C A E f (do let v ← eval x f.env; standAt p; let t ← holding [v] (truthy v); match BoolOp.And, t with | .And, false | .Or, true => pure v | _, _ => boolOp p .And (evalEach (y :: rest) f.env)) L H (fun v => Q (er v))
  refine TW.bind (h.mono fun v L1 H1 q => TW.standAt (TW.bind (TW.holding (TW.of_PW ((q v rfl).mono fun b H2 z => ?_)))))
  cases b with
  | true => exact z
  | false => exact TW.pure z
theorem EW.or {x y : Expr} {rest : List Expr} {p : Pos} {Q : Value → Loc → AH → Prop}
    (h : EW C A E f x L H fun v L1 H1 => P1 C A E truthy v H1 fun b H2 => if b then Q v L1 H2 else EW C A E f (.BoolOp .Or (y :: rest) p) L1 H2 Q) : EW C A E f (.BoolOp .Or (x :: y :: rest) p) L H Q := by
  show TW C A E f (do let v ← eval x f.env; standAt p; let t ← holding [v] (truthy v); match BoolOp.Or, t with | .And, false | .Or, true => pure v | _, _ => boolOp p .Or (evalEach (y :: rest) f.env)) L H (fun v => Q (er v))
  refine TW.bind (h.mono fun v L1 H1 q => TW.standAt (TW.bind (TW.holding (TW.of_PW ((q v rfl).mono fun b H2 z => ?_)))))
  cases b with
  | false => exact z
  | true => exact TW.pure z
theorem EW.boolLast {x : Expr} {op : BoolOp} {p : Pos} {Q : Value → Loc → AH → Prop} (h : EW C A E f x L H Q) : EW C A E f (.BoolOp op [x] p) L H Q := h
theorem EW.unary {x : Expr} {op : UnaryOp} {p : Pos} {Q : Value → Loc → AH → Prop} (h : EW C A E f x L H fun v L1 H1 => P1 C A E (unaryOp op) v H1 fun u H2 => Q (er u) L1 H2) :
    EW C A E f (.UnaryOp op x p) L H Q := by
  show TW C A E f (do let v ← eval x f.env; standAt p; holding [v] (unaryOp op v)) L H (fun v => Q (er v))
  exact TW.bind (h.mono fun v L1 H1 q => TW.standAt (TW.holding (TW.of_PW (q v rfl))))
theorem EW.ifexp {t x y : Expr} {p : Pos} {Q : Value → Loc → AH → Prop} (h : BW C A E f t L H fun b L1 H1 => if b then EW C A E f x L1 H1 Q else EW C A E f y L1 H1 Q) : EW C A E f (.IfExp t x y p) L H Q := by
  show TW C A E f (do if ← isTrue t f.env (eval t f.env) then eval x f.env else eval y f.env) L H (fun v => Q (er v))
  refine TW.bind (h.mono fun b L1 H1 q => ?_)
  cases b <;> exact q
theorem EW.named {x : Str} {np p : Pos} {e : Expr} {Q : Value → Loc → AH → Prop} (h : EW C A E f e L H fun v L1 H1 => Q v (setL L1 x v) H1)
    (hk : f.env.kindOf x = some .local) (how : f.env.locals ∈ f.ow) : EW C A E f (.NamedExpr (.Name x np) e p) L H Q := by
  show TW C A E f (do let v ← eval e f.env; holding [v] (do standAt np; bindName f.env x v); pure v) L H (fun v => Q (er v))
  refine TW.bind (h.mono fun v L1 H1 q => TW.bind (TW.holding (TW.standAt ?_)))
  intro s R F
  refine wpAny_bindName (TW.storeLocal (Q := fun _ L2 H2 => TW C A E f (pure v) L2 H2 fun v => Q (er v)) hk how ?_ s R F)
  exact TW.pure q

theorem EW.subscript {v i : Expr} {p : Pos} {Q : Value → Loc → AH → Prop}
    (h : EW C A E f v L H fun a L1 H1 => EW C A E f i L1 H1 fun b L2 H2 => P2 C A E (subscriptTail v i) a b H2 fun r H3 => Q (er r) L2 H3) : EW C A E f (.Subscript v i p) L H Q := by
  show TW C A E f (do let o ← eval v f.env; let i' ← holding [o] (eval i f.env); standAt p; subscriptTail v i o i') L H (fun v => Q (er v))
  exact TW.bind (h.mono fun a L1 H1 q => TW.bind (TW.holding (q.mono fun b L2 H2 q => TW.standAt (TW.of_PW (q a b rfl rfl)))))
noncomputable def plainBase : Expr → Bool
  | .Call (.Name _ _) [] [] _ => false
  | _ => true
theorem attributeBase_plain {o : Expr} (attr : Str) (env : Env) (w : Sem Value) (h : plainBase o = true) : attributeBase o attr env w = w := by
  cases o with
  | Call fn as ks p =>
    cases fn with
    | Name x q =>
      cases as with
      | cons _ _ => rfl
      | nil =>
        cases ks with
        | cons _ _ => rfl
        | nil => cases h
    | _ => rfl
  | _ => rfl
theorem EW.attr {e : Expr} {a : Str} {p : Pos} {Q : Value → Loc → AH → Prop}
    (h : EW C A E f e L H fun v L1 H1 => P1 C A E (fun o => getAttr o a true) v H1 fun r H2 => Q (er r) L1 H2) (hp : plainBase e = true := by rfl) : EW C A E f (.Attribute e a p) L H Q := by
  show TW C A E f (do let o ← attributeBase e a f.env (eval e f.env); standAt p.atName; let r ← holding [o] (getAttr o a true); letTemporaryGo e o r; pure r) L H (fun v => Q (er v))
  rw [attributeBase_plain _ _ _ hp]
  refine TW.bind (h.mono fun v L1 H1 q => TW.standAt (TW.bind (TW.holding (TW.of_PW ((q v rfl).mono fun r H2 z => ?_)))))
  intro s R F
  exact wpAny_bind (wpAny_letTemporaryGo (TW.pure (Q := fun v L2 H2 => Q (er v) L2 H2) z s R F))

noncomputable def AW (C : Cx) (A : Around) (E : Value → Shared → Prop) (f : Fm) (p : Pos) (as : List Expr) (L : Loc) (H : AH) (Q : List Value → Loc → AH → Prop) : Prop :=
  TW C A E f (spliced (backTo p (starEach as f.env))) L H fun vs => Q (vs.map er)
noncomputable def isStar : Expr → Bool
  | .Starred _ _ => true
  | _ => false
theorem AW.nil {p : Pos} {Q : List Value → Loc → AH → Prop} (h : Q [] L H) : AW C A E f p [] L H Q := TW.pure h
theorem starEach_plain {e : Expr} {rest : List Expr} (env : Env) (h : isStar e = false) : starEach (e :: rest) env = (false, eval e env) :: starEach rest env := by
  cases e <;> first | rfl | cases h
theorem AW.cons {p : Pos} {e : Expr} {rest : List Expr} {Q : List Value → Loc → AH → Prop}
    (h : EW C A E f e L H fun v L1 H1 => AW C A E f p rest L1 H1 fun vs L2 H2 => Q (v :: vs) L2 H2) (hs : isStar e = false := by rfl) : AW C A E f p (e :: rest) L H Q := by
  unfold AW; rw [starEach_plain _ hs]
  show TW C A E f (spliced ((false, eval e f.env) :: backTo p (starEach rest f.env))) L H _
  rw [spliced]
  refine TW.bind (h.mono fun v L1 H1 q => ?_)
  simp only [Bool.false_eq_true, if_false]
  refine TW.bind (TW.pure (TW.bind (TW.holding (q.mono fun vs L2 H2 z => TW.pure ?_))))
  simpa using z
noncomputable def StarP (C : Cx) (A : Around) (E : Value → Shared → Prop) (v : Value) (H : AH) (Q : List Value → AH → Prop) : Prop :=
  ∀ v', er v' = v → PW C A E (notIterableAtAll v') H fun b H1 => b = false ∧ PW C A E (collect v') H1 fun vs H2 => Q (vs.map er) H2
theorem AW.star {p sp : Pos} {e : Expr} {rest : List Expr} {Q : List Value → Loc → AH → Prop}
    (h : EW C A E f e L H fun v L1 H1 => StarP C A E v H1 fun us H2 => AW C A E f p rest L1 H2 fun vs L2 H2 => Q (us ++ vs) L2 H2) : AW C A E f p (.Starred e sp :: rest) L H Q := by
  show TW C A E f (spliced ((true, (do let v ← eval e f.env; standAt p; pure v)) :: backTo p (starEach rest f.env))) L H _
  rw [spliced]
  simp only [if_true]
  refine TW.bind (TW.bind (h.mono fun v L1 H1 q => TW.standAt (TW.pure ?_)))
  refine TW.bind (t := notIterableAtAll v) (TW.of_PW ((q v rfl).mono fun b H2 z => ?_))
  obtain ⟨rfl, z⟩ := z
  simp only [Bool.false_eq_true, if_false]
  refine TW.bind (TW.of_PW (z.mono fun us H3 y => ?_))
  refine TW.bind (TW.holding (y.mono fun vs L2 H4 x => TW.pure ?_))
  simpa using x
end

noncomputable abbrev nx : Value → Shared → Prop := fun _ _ => False
noncomputable abbrev XW (C : Cx) (A : Around) (E : Value → Shared → Prop) (f : Fm) (st : Stmt) (L : Loc) (H : AH) (Q : Flow → Loc → AH → Prop) : Prop :=
  TW C A E f (exec st f.env) L H Q
noncomputable def GW (C : Cx) (A : Around) (E : Value → Shared → Prop) (f : Fm) (t : Expr) (v : Value) (L : Loc) (H : AH) (Q : Loc → AH → Prop) : Prop :=
  ∀ v', er v' = v → TW C A E f (assign t f.env v') L H fun _ => Q
section
variable {α β : Type} {C : Cx} {A : Around} {E : Value → Shared → Prop} {f : Fm} {L : Loc} {H : AH}

theorem SW.nil {Q : Flow → Loc → AH → Prop} (h : Q .next L H) : SW C A E f [] L H Q := TW.pure h
noncomputable def seqQ (C : Cx) (A : Around) (E : Value → Shared → Prop) (f : Fm) (rest : List Stmt) (Q : Flow → Loc → AH → Prop) (fl : Flow) (L : Loc) (H : AH) : Prop :=
  match fl with | .next => SW C A E f rest L H Q | fl => Q fl L H
theorem SW.cons {st : Stmt} {rest : List Stmt} {Q : Flow → Loc → AH → Prop} (h : XW C A E f st L H (seqQ C A E f rest Q)) : SW C A E f (st :: rest) L H Q := by
  show TW C A E f (do match ← exec st f.env with | .next => execs rest f.env | fl => pure fl) L H Q
  refine TW.bind (h.mono fun fl L1 H1 q => ?_)
  cases fl <;> first | exact q | exact TW.pure q
theorem SW.one {st : Stmt} {Q : Flow → Loc → AH → Prop} (h : XW C A E f st L H Q) : SW C A E f [st] L H Q :=
  SW.cons (h.mono fun fl L1 H1 q => by cases fl <;> first | exact SW.nil q | exact q)
theorem XW.pass {p : Pos} {Q : Flow → Loc → AH → Prop} (h : Q .next L H) : XW C A E f (.Pass p) L H Q := TW.standAt (TW.pure h)
theorem XW.brk {p : Pos} {Q : Flow → Loc → AH → Prop} (h : Q .brk L H) : XW C A E f (.Break p) L H Q := TW.standAt (TW.pure h)
theorem XW.cont {p : Pos} {Q : Flow → Loc → AH → Prop} (h : Q .cont L H) : XW C A E f (.Continue p) L H Q := TW.standAt (TW.pure h)
theorem XW.ret {e : Expr} {p : Pos} {Q : Flow → Loc → AH → Prop} (h : EW C A E f e L H fun v L1 H1 => ∀ u, er u = v → Q (.ret u) L1 H1) : XW C A E f (.Return (some e) p) L H Q := by
  show TW C A E f (do standAt p; return .ret (← eval e f.env)) L H Q
  exact TW.standAt (TW.bind (h.mono fun v L1 H1 q => TW.pure (q v rfl)))
theorem XW.ite {t : Expr} {b o : List Stmt} {p : Pos} {Q : Flow → Loc → AH → Prop} (h : BW C A E f t L H fun c L1 H1 => if c then SW C A E f b L1 H1 Q else SW C A E f o L1 H1 Q) : XW C A E f (.If t b o p) L H Q := by
  show TW C A E f (do standAt p; if ← isTrue t f.env (eval t f.env) then execs b f.env else execs o f.env) L H Q
  refine TW.standAt (TW.bind (h.mono fun c L1 H1 q => ?_))
  cases c <;> exact q
theorem wpAny_dropValue {e : Expr} {p : Pos} {v : Value} {s : Shared} {Q : Flow → Shared → Prop} {w : World} {prog : Program} (h : Q .next s) : wpAny (model prog w) A (dropValue e p v) Q E s := by
  have key : dropValue e p v = pure .next ∨ dropValue e p v = dropValue (.Constant .none 0 p) p v := by
    cases e <;> first | exact .inl rfl | (refine .inr ?_; kernel_rfl)
  rcases key with e1 | e1
  · rw [e1]; exact wpAny_pure h
  · rw [e1]
    cases v <;> first | exact wpAny_pure h | exact wpAny_bind (wpAny_standAt (wpAny_bind (wpAny_runValue (codeAny_builtin entry_let_go (show wpAny _ _ (ret .none) _ _ s from wpAny_pure (wpAny_pure h))))))

theorem XW.expr {e : Expr} {p : Pos} {Q : Flow → Loc → AH → Prop} (h : EW C A E f e L H fun v L1 H1 => Q .next L1 H1)
    (hi : interactive f.env = false := by rfl) (hs : swapsWith e none p.line f.env = pure false := by rfl) : XW C A E f (.Expr e p) L H Q := by
  unfold XW; rw [exec_Expr _ e p hi hs]
  refine TW.standAt (TW.bind (h.mono fun v L1 H1 q => fun s R F => ?_))
  exact wpAny_dropValue ⟨L1, H1, R, F, .refl, .refl, q⟩

theorem GW.local {x : Str} {p : Pos} {v : Value} {Q : Loc → AH → Prop} (hk : f.env.kindOf x = some .local) (how : f.env.locals ∈ f.ow) (h : Q (setL L x v) H) : GW C A E f (.Name x p) v L H Q := by
  rintro v' rfl
  show TW C A E f (do standAt p; bindName f.env x v') L H _
  exact TW.standAt fun s R F => wpAny_bindName (TW.storeLocal (Q := fun _ => Q) hk how h s R F)
theorem GW.cell {x : Str} {p : Pos} {v : Value} {Q : Loc → AH → Prop} (hk : f.env.kindOf x = some .cell) (how : ∀ c, f.env.cells.lookup x = some c → c ∈ f.ow) (h : Q (setL L x v) H) : GW C A E f (.Name x p) v L H Q := by
  rintro v' rfl
  show TW C A E f (do standAt p; bindName f.env x v') L H _
  exact TW.standAt fun s R F => wpAny_bindName (TW.storeCell (Q := fun _ => Q) hk how h s R F)
theorem TW.release {vs ks : List Value} {g : Unit → Sem β} {Q : β → Loc → AH → Prop} (h : TW C A E f (g ()) L H Q) : TW C A E f (PySem.release vs ks >>= g) L H Q :=
  fun s R F => wpAny_bind fun Γ p hΓ => by rw [Sem.wp_release]; exact h s R F
theorem TW.release' {vs ks : List Value} {Q : Unit → Loc → AH → Prop} (h : Q () L H) : TW C A E f (PySem.release vs ks) L H Q :=
  fun s R F Γ p hΓ => by rw [Sem.wp_release]; exact ⟨L, H, R, F, .refl, .refl, h⟩
theorem GW.sub {o i : Expr} {p : Pos} {v : Value} {Q : Loc → AH → Prop}
    (h : EW C A E f o L H fun ov L1 H1 => EW C A E f i L1 H1 fun iv L2 H2 => ∀ o' i' v', er o' = ov → er i' = iv → er v' = v → PW C A E (setItem o' i' v') H2 fun _ H3 => Q L2 H3) : GW C A E f (.Subscript o i p) v L H Q := by
  rintro v' rfl
  rw [arm_assign_Subscript]
  refine TW.bind (TW.holding (h.mono fun ov L1 H1 q => TW.bind (TW.holding (q.mono fun iv L2 H2 q => TW.standAt (TW.bind (TW.holding (TW.of_PW ((q ov iv v' rfl rfl rfl).mono fun u H3 z => ?_))))))))
  exact TW.release' z
theorem GW.attr {o : Expr} {a : Str} {p : Pos} {v : Value} {Q : Loc → AH → Prop}
    (h : EW C A E f o L H fun ov L1 H1 => ∀ o' v', er o' = ov → er v' = v → TW C A E f (setAttr o' a v') L1 H1 fun _ => Q) : GW C A E f (.Attribute o a p) v L H Q := by
  rintro v' rfl
  show TW C A E f (do
    let ov ← holding [v'] (eval o f.env)
    standAt p.atName
    holding [v', ov] (setAttr ov a v')
    release [v', ov] []) L H _
  refine TW.bind (TW.holding (h.mono fun ov L1 H1 q => TW.standAt (TW.bind (TW.holding ((q ov v' rfl rfl).mono fun u L2 H3 z => ?_)))))
  exact TW.release' z

theorem XW.set {t e : Expr} {p : Pos} {Q : Flow → Loc → AH → Prop} (h : EW C A E f e L H fun v L1 H1 => GW C A E f t v L1 H1 fun L2 H2 => Q .next L2 H2)
    (hs : swapsWith e (some t) p.line f.env = pure false := by rfl) (hw : swappedStores [t] e f.env = pure none := by rfl) (ht : isStar t = false := by rfl) : XW C A E f (.Assign [t] e p) L H Q := by
  show TW C A E f (do
    standAt p
    if ← swapsWith e (some t) p.line f.env then do
      evalThenUse e f.env fun v => assignAll v ((assignEach [t] f.env).map (·.2))
      pure .next
    else do
      let v ← eval e f.env
      assignStores f.env v (← swappedStores [t] e f.env) ((assignEach [t] f.env).map (·.2))) L H Q
  rw [hs, hw]
  refine TW.standAt ?_
  show TW C A E f (do
      let v ← eval e f.env
      assignStores f.env v none ((assignEach [t] f.env).map (·.2))) L H Q
  refine TW.bind (h.mono fun v L1 H1 q => ?_)
  have e1 : (assignEach [t] f.env).map (·.2) = [PySem.assign t f.env] := by
    cases t <;> first | rfl | cases ht
  rw [e1]
  show TW C A E f (do assignAll v [PySem.assign t f.env]; pure .next) L1 H1 Q
  refine TW.bind ?_
  exact (q v rfl).mono fun _ L2 H2 z => TW.pure z
end

set_option genInjectivity false in
structure ItSpec (C : Cx) (A : Around) (I : Addr) (xs : List Value) (D : AH → Prop) (S : Nat → Heap → Prop) : Prop where
  frame : ∀ i h h', S i h → (∀ o, h.get? I = some o → h'.get? I = some o) → S i h'
  alive : ∀ i h, S i h → ∃ o, h.get? I = some o
  item : ∀ i x H s (Q : Option Value → Shared → Prop) (E : Value → Shared → Prop), xs[i]? = some x → S i s.heap → Rel C H s → D H →
    (∀ v h' tk, er v = x → S (i + 1) h' → (∀ b o, b ≠ I → s.heap.get? b = some o → h'.get? b = some o) → Q (some v) { s with heap := h', toks := tk }) →
    wpAny (model C.prog C.w) A (pyNext (.ref I)) Q E s
  done : ∀ H s (Q : Option Value → Shared → Prop) (E : Value → Shared → Prop), S xs.length s.heap → Rel C H s → D H →
    (∀ h' tk, (∀ b o, b ≠ I → s.heap.get? b = some o → h'.get? b = some o) → Q none { s with heap := h', toks := tk }) →
    wpAny (model C.prog C.w) A (pyNext (.ref I)) Q E s
  go : ∀ t v i s (Q : Unit → Shared → Prop) (E : Value → Shared → Prop), S i s.heap → Q () s → wpAny (model C.prog C.w) A (letOwnedTupleGo t (.ref I) v) Q E s
  self : ∀ i s (Q : Value → Shared → Prop) (E : Value → Shared → Prop), S i s.heap → Q (.ref I) s → wpAny (model C.prog C.w) A (pyIter (.ref I)) Q E s

noncomputable def IterP (C : Cx) (A : Around) (x : Value) (xs : List Value) (D : AH → Prop) : Prop :=
  ∀ x' H s (K : Value → Shared → Prop) (E : Value → Shared → Prop), er x' = x → Rel C H s → D H →
    (∀ I h' tk S, s.heap.get? I = none → (∀ b o, s.heap.get? b = some o → h'.get? b = some o) → ItSpec C A I xs D S → S 0 h' → K (.ref I) { s with heap := h', toks := tk }) →
    wpAny (model C.prog C.w) A (pyIter x') K E s

noncomputable def turnQ (D : AH → Prop) (Q : Flow → Loc → AH → Prop) (go : Loc → AH → Prop) (fl : Flow) (L : Loc) (H : AH) : Prop :=
  match fl with
  | .next => D H ∧ go L H
  | .cont => D H ∧ go L H
  | .brk => Q .next L H
  | .ret v => Q (.ret v) L H
noncomputable def ForW (C : Cx) (A : Around) (f : Fm) (t : Expr) (body : List Stmt) (D : AH → Prop) (Q : Flow → Loc → AH → Prop) : List Value → Loc → AH → Prop
  | [], L, H => Q .next L H
  | x :: xs, L, H => GW C A nx f t x L H fun L1 H1 => SW C A nx f body L1 H1 (turnQ D Q (ForW C A f t body D Q xs))

section
variable {α β : Type} {C : Cx} {A : Around} {E : Value → Shared → Prop} {f : Fm} {L : Loc} {H : AH}

theorem Rel.only {s : Shared} {h' : Heap} {I : Addr} {tk : Nat} (R : Rel C H s) (hk : ∀ b o, b ≠ I → s.heap.get? b = some o → h'.get? b = some o) (hI : H I = none) (h0 : C.h₀.get? I = none) (hf : I ∉ C.fr) : Rel C H { s with heap := h', toks := tk } := by
  refine ⟨fun b o e => hk b o (by first | exact no_some (h0) e | exact (no_some (h0) e).symm | exact no_some e (h0) | exact (no_some e (h0)).symm | exact two_ne (h0) e (by intro q; cases q; done) | exact (two_ne (h0) e (by intro q; cases q; done)).symm | (rintro rfl; rw [h0] at e; cases e)) (R.keep b o e), fun a o e => ?_, R.low, R.hid, fun l hl => ?_⟩
  rotate_left
  · obtain ⟨⟨o, e, nd⟩, q⟩ := R.live l hl
    exact ⟨⟨o, hk l o (by rintro rfl; exact hf hl) e, nd⟩, q⟩
  refine (R.rep a o e).at fun c hc x hx => hk c x ?_ hx
  rintro rfl
  cases o with
  | inst c' d fs sl =>
    simp only [AO.foot, List.mem_cons, List.not_mem_nil, or_false] at hc
    rcases hc with rfl | rfl
    · rw [e] at hI; cases hI
    · exact R.offHid hI _ _ _ _ _ e rfl
  | _ => simp only [AO.foot, List.mem_singleton] at hc; subst hc; rw [e] at hI; cases hI
theorem FrOk.only {h h' : Heap} {I : Addr} (F : FrOk C f L H h) (hk : ∀ b o, b ≠ I → h.get? b = some o → h'.get? b = some o) (hl : f.env.locals ≠ I) (hc : ∀ x c, isC f.env x → f.env.cells.lookup x = some c → c ≠ I) : FrOk C f L H h' := by
  obtain ⟨kind, glob, ⟨m, n, nl⟩, cell, inj, apart, low, off, own⟩ := F
  refine ⟨kind, glob, ⟨m, n.at' fun o e => hk _ _ hl e, nl⟩, fun x hx => ?_, inj, apart, low, off, own⟩
  obtain ⟨c, v, e1, ⟨o, e2, e3⟩, e4⟩ := cell x hx
  exact ⟨c, v, e1, ⟨o, hk _ _ (hc x c hx e1) e2, e3⟩, e4⟩
theorem FrOk.ne {h : Heap} {I : Addr} (F : FrOk C f L H h) (hI : h.get? I = none) : f.env.locals ≠ I ∧ (∀ x c, isC f.env x → f.env.cells.lookup x = some c → c ≠ I) ∧ I ∉ f.ow := by
  have h1 : f.env.locals ≠ I := by
    rintro rfl
    obtain ⟨m, ⟨o, es, ep, e, _⟩, _⟩ := F.ns
    rw [hI] at e; cases e
  have h2 : ∀ x c, isC f.env x → f.env.cells.lookup x = some c → c ≠ I := by
    rintro x c hx hc rfl
    obtain ⟨c', v, e1, ⟨o, e2, _⟩, _⟩ := F.cell x hx
    rw [hc] at e1; cases e1
    rw [hI] at e2; cases e2
  refine ⟨h1, h2, fun hm => ?_⟩
  rcases F.own I hm with e | ⟨x, hx, hc⟩
  · exact h1 e.symm
  · exact h2 x I hx hc rfl

inductive ForI (C : Cx) (f : Fm) (H : AH) (s0 : Shared) (m : Nat) (P : Nat → Loc → AH → Heap → Prop) (n : Nat) (s : Shared) : Prop
  | mk (i : Nat) (L2 : Loc) (H2 : AH) (e : n = m + 1 - i) (hi : i ≤ m) (R2 : Rel C H2 s) (F2 : FrOk C f L2 H2 s.heap) (k2 : Kept C.fr f.ow H H2 s0.heap s.heap) (st2 : Still s0 s) (p : P i L2 H2 s.heap)
theorem XW.for {t it : Expr} {body : List Stmt} {p : Pos} {Q : Flow → Loc → AH → Prop}
    (h : EW C A E f it L H fun x L1 H1 => ∃ xs D, D H1 ∧ IterP C A x xs D ∧ ForW C A f t body D Q xs L1 H1)
    (hs : ∀ x, foldedSetIterable it f.env x = pure x := by intro _; rfl) : XW C A E f (.For t it body [] p) L H Q := by
  intro s0 R0 F0
  refine wpAny_For (wpAny_mono (h s0 R0 F0) (fun x s1 ⟨L1, H1, R1, F1, k1, st1, xs, D, d1, ip, fw⟩ => ?_) fun _ _ e => e) hs
  refine ip x H1 s1 _ _ rfl R1 d1 fun I h' tk S hI hk sp s0' => ?_
  have n0 := F1.ne hI
  have b0 : C.h₀.get? I = none := by
    cases e : C.h₀.get? I with
    | none => rfl
    | some o => have := R1.keep I o e; rw [hI] at this; cases this
  have HI : H1 I = none := by
    cases e : H1 I with
    | none => rfl
    | some o => obtain ⟨x, hx⟩ := (R1.rep I o e).alive; rw [hI] at hx; cases hx
  have hne : ∀ a o, s0.heap.get? a = some o → H a = none → a ∉ f.ow → a ≠ I := by
    rintro a o e q hn rfl
    obtain ⟨⟨o', e', _⟩, _⟩ := k1 a o e q hn
    rw [hI] at e'; cases e'
  have nfI : I ∉ C.fr := by
    intro hm
    obtain ⟨⟨o, e, _⟩, _⟩ := R1.live I hm
    rw [hI] at e; cases e
  refine codeAny_forLoop_any (ForI C f H s0 xs.length fun i L2 H2 h => An4 (D H2) (S i h) (H2 I = none) (ForW C A f t body D Q (xs.drop i) L2 H2)) ?_ (xs.length + 1)
    ⟨0, L1, H1, by simp, by simp, R1.only (fun b o _ e => hk b o e) HI b0 nfI, F1.only (fun b o _ e => hk b o e) n0.1 n0.2.1, k1.trans (.mk fun a o e q _ => ⟨hk a o e, q⟩), st1.trans ⟨rfl, rfl⟩, d1, s0', HI, fw⟩
  rintro n s ⟨i, L2, H2, rfl, hi, R2, F2, k2, st2, d2, S2, HI2, fw2⟩
  by_cases hlt : i < xs.length
  · have hx : xs[i]? = some xs[i] := List.getElem?_eq_getElem hlt
    refine sp.item i xs[i] H2 s _ _ hx S2 R2 d2 fun v h2 tk2 ev S3 hk2 => ?_
    refine sp.go t v (i + 1) _ _ _ S3 ?_
    have hdrop : xs.drop i = xs[i] :: xs.drop (i + 1) := List.drop_eq_getElem_cons hlt
    rw [hdrop] at fw2
    have R3 : Rel C H2 { s with heap := h2, toks := tk2 } := R2.only hk2 HI2 b0 nfI
    have F3 : FrOk C f L2 H2 h2 := F2.only hk2 n0.1 n0.2.1
    refine wpAny_mono (fw2 v ev _ R3 F3) (fun _ s4 ⟨L4, H4, R4, F4, k4, st4, sw⟩ => ?_) fun _ _ e => e.elim
    refine wpAny_mono (sw s4 R4 F4) (fun fl s5 ⟨L5, H5, R5, F5, k5, st5, q5⟩ => ?_) fun _ _ e => e.elim
    have kst : Kept C.fr f.ow H H2 s0.heap h2 := by
      intro a o e q hn
      obtain ⟨⟨o2, e2, d2, f2⟩, q2⟩ := k2 a o e q hn
      exact ⟨⟨o2, hk2 a o2 (hne a o e q hn) e2, d2, f2⟩, q2⟩
    have hkept : Kept C.fr f.ow H H5 s0.heap s5.heap := kst.trans (k4.trans k5)
    have hst : Still s0 s5 := ⟨st5.gens.trans (st4.gens.trans st2.gens), st5.os.trans (st4.os.trans st2.os)⟩
    have hI5 : H5 I = none ∧ S (i + 1) s5.heap := by
      obtain ⟨oI, eI⟩ := sp.alive _ _ S3
      obtain ⟨e5, q5'⟩ := (k4.trans k5).at eI HI2 n0.2.2 nfI
      exact ⟨q5', sp.frame _ _ _ S3 fun o e => ((k4.trans k5).at e HI2 n0.2.2 nfI).1⟩
    cases fl with
    | next => exact ⟨xs.length + 1 - (i + 1), by lia, i + 1, L5, H5, rfl, by lia, R5, F5, hkept, hst, q5.1, hI5.2, hI5.1, q5.2⟩
    | cont => exact ⟨xs.length + 1 - (i + 1), by lia, i + 1, L5, H5, rfl, by lia, R5, F5, hkept, hst, q5.1, hI5.2, hI5.1, q5.2⟩
    | brk => exact ⟨L5, H5, R5, F5, hkept, hst, q5⟩
    | ret v => exact ⟨L5, H5, R5, F5, hkept, hst, q5⟩
  · have : i = xs.length := by lia
    subst this
    refine sp.done H2 s _ _ S2 R2 d2 fun h2 tk2 hk2 => ?_
    rw [List.drop_length] at fw2
    refine wpAny_execs_nil ⟨L2, H2, R2.only hk2 HI2 b0 nfI, F2.only hk2 n0.1 n0.2.1, ?_, ⟨st2.gens, st2.os⟩, fw2⟩
    intro a o e q hn
    obtain ⟨⟨o2, e2, d2, f2⟩, q2⟩ := k2 a o e q hn
    exact ⟨⟨o2, hk2 a o2 (hne a o e q hn) e2, d2, f2⟩, q2⟩

theorem XW.while {test : Expr} {body orelse : List Stmt} {p : Pos} {Q : Flow → Loc → AH → Prop} (Inv : Nat → Loc → AH → Prop)
    (turn : ∀ n L H, Inv n L H → BW C A nx f test L H fun c L1 H1 => if c then SW C A nx f body L1 H1 (fun fl L2 H2 => match fl with
        | .next => ∃ m, m < n ∧ Inv m L2 H2
        | .cont => ∃ m, m < n ∧ Inv m L2 H2
        | .brk => Q .next L2 H2
        | .ret v => Q (.ret v) L2 H2) else SW C A nx f orelse L1 H1 Q) (n : Nat) (h0 : Inv n L H) : XW C A E f (.While test body orelse p) L H Q := by
  intro s0 R0 F0
  refine wpAny_While ?_
  refine codeAny_whileLoop (fun n s => TO C f H s0 (fun (_ : Unit) => Inv n) () s) ?_ n ⟨L, H, R0, F0, .refl, .refl, h0⟩
  rintro n s ⟨L2, H2, R2, F2, k2, st2, inv⟩
  refine wpAny_mono (turn n L2 H2 inv s R2 F2) (fun c s3 ⟨L3, H3, R3, F3, k3, st3, q3⟩ => ?_) fun _ _ e => e.elim
  cases c with
  | true =>
    refine wpAny_mono (q3 s3 R3 F3) (fun fl s4 ⟨L4, H4, R4, F4, k4, st4, q4⟩ => ?_) fun _ _ e => e.elim
    have hk := k2.trans (k3.trans k4)
    have hst := st2.trans (st3.trans st4)
    cases fl with
    | next => exact let ⟨m, hm, i⟩ := q4; ⟨m, hm, L4, H4, R4, F4, hk, hst, i⟩
    | cont => exact let ⟨m, hm, i⟩ := q4; ⟨m, hm, L4, H4, R4, F4, hk, hst, i⟩
    | brk => exact ⟨L4, H4, R4, F4, hk, hst, q4⟩
    | ret v => exact ⟨L4, H4, R4, F4, hk, hst, q4⟩
  | false =>
    exact wpAny_mono (q3 s3 R3 F3) (fun fl s4 ⟨L4, H4, R4, F4, k4, st4, q4⟩ => ⟨L4, H4, R4, F4, k2.trans (k3.trans k4), st2.trans (st3.trans st4), q4⟩) fun _ _ e => e.elim
end

section
variable {α β : Type} {C : Cx} {A : Around} {E : Value → Shared → Prop} {f : Fm} {L : Loc} {H : AH}

theorem dead (h : Heap) : h.get? h.objs.size = none := by
  cases e : h.get? h.objs.size with
  | none => rfl
  | some o => exact absurd (Heap.lt_size e) (Nat.lt_irrefl _)
noncomputable def ownIters : List String := ["enumerate", "zip", "dict_itemiterator", "dict_reverseitemiterator", "odict_iterator", "itertools.zip_longest", "itertools.pairwise"]
theorem go_plain {t : Expr} {I : Addr} {v : Value} {s : Shared} {o : Obj} {n : String} {Q : Unit → Shared → Prop} {M : Model} (e : s.heap.get? I = some o) (hc : o.cls = .type n) (hn : ownIters.contains n = false) (h : Q () s) :
    wpAny M A (letOwnedTupleGo t (.ref I) v) Q E s := by
  have key : ∀ a, wpAny M A (do
      let o ← load I
      match o.cls, o.data with
      | .type n, .fields vs =>
        if ["enumerate", "zip", "dict_itemiterator", "dict_reverseitemiterator", "odict_iterator", "itertools.zip_longest", "itertools.pairwise"].contains n && vs[0]? == some (rawInt a) then
          rule "for.unpacks-the-owned-tuple"
          updateField I 0 .none
      | _, _ => pure ()) Q E s := by
    intro a
    refine wpAny_bind (wpAny_load e ?_)
    rw [hc]
    cases o.data with
    | fields vs =>
      have : ["enumerate", "zip", "dict_itemiterator", "dict_reverseitemiterator", "odict_iterator", "itertools.zip_longest", "itertools.pairwise"].contains n = false := hn
      simp only [this, Bool.false_and, Bool.false_eq_true, if_false]
      exact wpAny_pure h
    | _ => exact wpAny_pure h
  cases t with
  | Tuple es k p => cases v <;> first | exact key _ | exact wpAny_pure h
  | List es p => cases v <;> first | exact key _ | exact wpAny_pure h
  | _ => exact wpAny_pure h

theorem getElem?_map_er {vs : Array Value} {xs : List Value} (h : vs.toList.map er = xs) {i : Nat} {x : Value} (hx : xs[i]? = some x) : ∃ v, vs[i]? = some v ∧ er v = x := by
  subst h
  rw [List.getElem?_map] at hx
  cases e : vs.toList[i]? with
  | none => rw [e] at hx; cases hx
  | some v => rw [e] at hx; exact ⟨v, by simpa using e, Option.some.inj hx⟩

theorem IterP.list (hh : A.handled = none) {l : Addr} {xs : List Value} : IterP C A (.ref l) xs (fun H => H l = some (.list xs)) := by
  intro x' H s K E hx R d k
  have hx := er_ref hx; subst hx
  obtain ⟨vs, n, e, q⟩ := R.rep l _ d
  have hl : s.heap.IsList l vs := ⟨_, e, rfl, n, rfl⟩
  refine wpAny_pyIter_list hl (k _ _ s.toks (fun i h => h.IsListIter s.heap.objs.size l i) ?_ ?_ ?_ ?_)
  · exact (dead s.heap)
  · exact fun b o e => Heap.get?_push_of_some _ e
  · refine ⟨fun i h h' S k => ?_, fun i h ⟨o, e, _⟩ => ⟨o, e⟩, fun i x H s Q E hx S R d k => ?_, fun H s Q E S R d k => ?_, fun t v i s Q E ⟨o, e, c, _⟩ h => go_plain e c (by decide) h, fun i s Q E S h => wpAny_pyIter_listiter S h⟩
    · obtain ⟨o, e, p⟩ := S; exact ⟨o, k o e, p⟩
    · obtain ⟨vs, n, e, q⟩ := R.rep l _ d
      obtain ⟨v, hv, ev⟩ := getElem?_map_er q hx
      exact wpAny_pyNext_list_item S ⟨_, e, rfl, n, rfl⟩ hv fun h' S' hs => k v h' s.toks ev S' fun b o hb e => (hs.2 b hb).trans e
    · obtain ⟨vs, n, e, q⟩ := R.rep l _ d
      have : vs[xs.length]? = none := by subst q; simp
      exact wpAny_pyNext_list_end hh S ⟨_, e, rfl, n, rfl⟩ this fun h' hs => k h' s.toks fun b o hb e => hs b o hb e
  · exact ⟨_, Heap.get?_push_size _ rfl, rfl, rfl⟩

theorem IterP.tuple (hh : A.handled = none) {l : Addr} {xs : List Value} : IterP C A (.ref l) xs (fun H => H l = some (.tuple xs)) := by
  intro x' H s K E hx R d k
  have hx := er_ref hx; subst hx
  obtain ⟨vs, n, e, q⟩ := R.rep l _ d
  have hl : s.heap.IsTuple l vs := ⟨_, e, rfl, n, rfl⟩
  refine wpAny_pyIter_tuple hl (k _ _ s.toks (fun i h => h.IsTupleIter s.heap.objs.size l i) ?_ ?_ ?_ ?_)
  · exact (dead s.heap)
  · exact fun b o e => Heap.get?_push_of_some _ e
  · refine ⟨fun i h h' S k => ?_, fun i h ⟨o, e, _⟩ => ⟨o, e⟩, fun i x H s Q E hx S R d k => ?_, fun H s Q E S R d k => ?_, fun t v i s Q E ⟨o, e, c, _⟩ h => go_plain e c (by decide) h, fun i s Q E S h => wpAny_pyIter_tupleiter S h⟩
    · obtain ⟨o, e, p⟩ := S; exact ⟨o, k o e, p⟩
    · obtain ⟨vs, n, e, q⟩ := R.rep l _ d
      obtain ⟨v, hv, ev⟩ := getElem?_map_er q hx
      exact wpAny_pyNext_tuple_item S ⟨_, e, rfl, n, rfl⟩ hv fun h' S' hs => k v h' s.toks ev S' fun b o hb e => (hs.2 b hb).trans e
    · obtain ⟨vs, n, e, q⟩ := R.rep l _ d
      have : vs[xs.length]? = none := by subst q; simp
      exact wpAny_pyNext_tuple_end hh S ⟨_, e, rfl, n, rfl⟩ this fun h' hs => k h' s.toks fun b o hb e => hs b o hb e
  · exact ⟨_, Heap.get?_push_size _ rfl, rfl, rfl⟩

noncomputable def rangeItems (a b c : Int) : List Value := (List.range (Builtin.Range.rangeSize a b c).toNat).map fun (i : Nat) => Value.int (a + i * c) 0
theorem IterP.range (hh : A.handled = none) {r : Addr} {a b c : Int} (hsm : Builtin.Range.small a b c = true) : IterP C A (.ref r) (rangeItems a b c) (fun H => H r = some (.range a b c)) := by
  intro x' H s K E hx R d k
  have hx := er_ref hx; subst hx
  obtain ⟨t, u, v, e⟩ := R.rep r _ d
  refine wpAny_pyIter_range e hsm (k _ _ s.toks (fun i h => IsRangeIter h s.heap.objs.size (a + i * c) (((Builtin.Range.rangeSize a b c)) - i) c) ?_ ?_ ?_ ?_)
  · exact (dead s.heap)
  · exact fun b o e => Heap.get?_push_of_some _ e
  · refine ⟨fun i h h' S k => k _ S, fun i h e => ⟨_, e⟩, fun i x H s Q E hx S R d k => ?_, fun H s Q E S R d k => ?_, fun t v i s Q E e h => go_plain e rfl (by decide) h, fun i s Q E S h => wpAny_pyIter_rangeiter S h⟩
    · have hi : i < (Builtin.Range.rangeSize a b c).toNat := by
        have := List.getElem?_eq_some_iff.mp hx
        obtain ⟨h1, _⟩ := this
        simpa [rangeItems] using h1
      have hx' : x = .int (a + i * c) 0 := by
        simp [rangeItems, hi] at hx
        exact hx.symm
      refine wpAny_pyNext_range_item S (by lia) fun h' S' hs => k _ h' _ (by rw [hx']; rfl) ?_ fun b o hb e => (hs.2 b hb).trans e
      have e1 : a + ((i + 1 : Nat) : Int) * c = a + i * c + c := by push_cast; rw [Int.add_mul]; lia
      have e2 : Builtin.Range.rangeSize a b c - ((i + 1 : Nat) : Int) = Builtin.Range.rangeSize a b c - i - 1 := by push_cast; lia
      rw [e1, e2]; exact S'
    · refine wpAny_pyNext_range_end hh S ?_ fun h' hs => k h' s.toks fun b o hb e => hs b o hb e
      simp only [rangeItems, List.length_map, List.length_range]; lia
  · simp only [Int.ofNat_zero, Int.zero_mul, Int.add_zero, Int.sub_zero]
    exact Heap.get?_push_size _ rfl

theorem IterP.dict (hh : A.handled = none) {d : Addr} {es : List (Int × Value)} {ep : Nat} (hd : (d == sysModules) = false) : IterP C A (.ref d) (es.map fun e => .int e.1 0) (fun H => H d = some (.dict es ep)) := by
  intro x' H s K E hx R dd k
  have hx := er_ref hx; subst hx
  obtain ⟨kvs, e, q⟩ := R.rep d _ dd
  have hlen : kvs.length = es.length := by rw [← q]; simp
  refine wpAny_pyIter_dict hd e (k _ _ s.toks (fun i h => h.IsKeyIter s.heap.objs.size d i es.length ep) ?_ ?_ ?_ ?_)
  · exact (dead s.heap)
  · exact fun b o e => Heap.get?_push_of_some _ e
  · refine ⟨fun i h h' S k => ?_, fun i h ⟨o, e, _⟩ => ⟨o, e⟩, fun i x H s Q E hx S R d k => ?_, fun H s Q E S R d k => ?_, fun t v i s Q E ⟨o, e, c, _⟩ h => go_plain e c (by decide) h, fun i s Q E S h => wpAny_pyIter_keyiter S h⟩
    · obtain ⟨o, e, p⟩ := S; exact ⟨o, k o e, p⟩
    · obtain ⟨kvs, e, q⟩ := R.rep _ _ d
      have hlen : kvs.length = es.length := by rw [← q]; simp
      rw [← hlen] at S
      obtain ⟨h1, h2⟩ := List.getElem?_eq_some_iff.mp hx
      have hi : i < kvs.length := by rw [hlen]; simpa using h1
      refine wpAny_pyNext_dict_item S e (k := kvs[i].1) (v := kvs[i].2) (by simp [hi]) fun key h' hkey S' hs => k key h' s.toks ?_ (hlen ▸ S') fun b o hb e => (hs.2 b hb).trans e
      have : x = .int kvs[i].1 0 := by
        rw [← h2]; subst q; simp
      rw [this]
      have hk' : Value.isInt kvs[i].1 key = true := hkey
      cases key <;> simp [Value.isInt] at hk' ⊢
      rw [hk']; rfl
    · obtain ⟨kvs, e, q⟩ := R.rep _ _ d
      have hlen : kvs.length = es.length := by rw [← q]; simp
      rw [List.length_map, ← hlen] at S
      exact wpAny_pyNext_dict_end hh S e (by simp) fun h' hs => k h' s.toks fun b o hb e => hs b o hb e
  · exact ⟨_, Heap.get?_push_size _ rfl, rfl, by rw [hlen]; rfl⟩
end

noncomputable def fnFm (fd : FuncData) (L fa : Addr) : Fm := ⟨callEnvC fd L fa, L :: fd.scope.names.filterMap fun p => if fd.scope.names.lookup p.1 = some .cell then (cellsFrom (L + 1) fd.scope.names []).lookup p.1 else none⟩
noncomputable def loc0 (binds : List (Str × Value)) : Loc := fun x => (binds.reverse.lookup x).map er
noncomputable def retV : Flow → Value
  | .ret v => v
  | _ => .none
noncomputable def kindOk (fd : FuncData) (x : Str) : Bool := fd.scope.names.lookup x == some .local || fd.scope.names.lookup x == some .cell

noncomputable def Cx.push (C : Cx) (L : Addr) : Cx := { C with fr := L :: C.fr }
inductive CO (C : Cx) (H : AH) (s : Shared) (Q : Value → AH → Prop) (r : Result) (s' : Shared) : Prop
  | mk (v : Value) (H' : AH) (e : r = .ok (.ret v)) (R : Rel C H' s') (k : Kept C.fr [] H H' s.heap s'.heap) (st : Still s s') (q : Q v H')
noncomputable def PC (C : Cx) (A : Around) (c : Code) (H : AH) (Q : Value → AH → Prop) : Prop :=
  ∀ s, Rel C H s → codeAny (model C.prog C.w) A c (CO C H s Q) s
section
variable {α β : Type} {C : Cx} {A : Around} {E : Value → Shared → Prop} {f : Fm} {L : Loc} {H : AH}

theorem cellsFrom_acc : ∀ (names : List (Str × NameKind)) (n : Nat) (acc : List (Str × Addr)) (x : Str), (acc.lookup x).isSome = true → ((cellsFrom n names acc).lookup x).isSome = true
  | [], _, _, _, h => h
  | (name, kind) :: r, n, acc, x, h => by
    unfold cellsFrom
    split
    · refine cellsFrom_acc r _ _ x ?_
      rw [List.lookup_cons]
      cases x == name <;> simp [h]
    · exact cellsFrom_acc r _ _ x h
theorem cellsFrom_some : ∀ (names : List (Str × NameKind)) (n : Nat) (acc : List (Str × Addr)) (x : Str), names.lookup x = some .cell → ((cellsFrom n names acc).lookup x).isSome = true
  | (name, kind) :: r, n, acc, x, h => by
    rw [List.lookup_cons] at h
    unfold cellsFrom
    cases e : x == name with
    | true =>
      rw [e] at h
      have hk : kind = .cell := by simpa using h
      subst hk
      simp only [beq_self_eq_true, if_true]
      exact cellsFrom_acc r _ _ x (by rw [List.lookup_cons, e]; rfl)
    | false =>
      rw [e] at h
      split
      · exact cellsFrom_some r _ _ x h
      · exact cellsFrom_some r _ _ x h

theorem bindL_eq (k : Str → Option NameKind) (x : Str) (hx : k x = some .local) : ∀ (bs : List (Str × Value)) (m : Str → Option Value), bindL k bs m x = (bs.reverse.lookup x).or (m x)
  | [], m => by simp [bindL]
  | (n, v) :: r, m => by
    rw [bindL, bindL_eq k x hx r]
    rw [List.reverse_cons]
    by_cases e : x = n
    · subst e
      simp only [hx, if_true]
      rw [List.lookup_append]
      cases r.reverse.lookup x <;> simp
    · have e' : (x == n) = false := by simpa using e
      rw [List.lookup_append]
      have : List.lookup x [(n, v)] = none := by simp [List.lookup_cons, e']
      rw [this]
      split <;> simp [e]
theorem bindC_eq (k : Str → Option NameKind) (x : Str) (hx : k x ≠ some .local) : ∀ (bs : List (Str × Value)) (m : Str → Option Value), bindC k bs m x = (bs.reverse.lookup x).or (m x)
  | [], m => by simp [bindC]
  | (n, v) :: r, m => by
    rw [bindC, bindC_eq k x hx r]
    rw [List.reverse_cons]
    by_cases e : x = n
    · subst e
      simp only [hx, if_false]
      rw [List.lookup_append]
      cases r.reverse.lookup x <;> simp
    · have e' : (x == n) = false := by simpa using e
      rw [List.lookup_append]
      have : List.lookup x [(n, v)] = none := by simp [List.lookup_cons, e']
      rw [this]
      split <;> simp [e]

theorem fnFm_cell {fd : FuncData} {L fa : Addr} {x : Str} (hk : (fnFm fd L fa).env.kindOf x = some .cell) : ∀ c, (fnFm fd L fa).env.cells.lookup x = some c → c ∈ (fnFm fd L fa).ow := by
  intro c hc
  have hk' : fd.scope.names.lookup x = some .cell := hk
  simp only [fnFm, List.mem_cons, List.mem_filterMap]
  right
  exact ⟨(x, .cell), mem_of_lookup hk', by simp only [hk', if_true]; exact hc⟩
theorem fnFm_loc {fd : FuncData} {L fa : Addr} : (fnFm fd L fa).env.locals ∈ (fnFm fd L fa).ow := List.mem_cons_self

noncomputable def Nw (H : AH) (h : Heap) (b : Addr) : Prop := ∀ o, h.get? b = some o → H b = none → False
inductive TX (C : Cx) (f : Fm) (H : AH) (s : Shared) (X : Addr → Addr → AH → Heap → Prop) (v : Value) (s' : Shared) : Prop
  | mk (e T : Addr) (H' : AH) (ev : v = .ref e) (R : Rel C H' s') (k : Kept C.fr f.ow H H' s.heap s'.heap) (st : Still s s') (ne : Nw H s.heap e) (nt : Nw H s.heap T) (q : X e T H' s'.heap)
inductive XO (C : Cx) (H : AH) (s : Shared) (X : Addr → Addr → AH → Heap → Prop) (r : Result) (s' : Shared) : Prop
  | mk (e T : Addr) (H' : AH) (er : r = .error (.ref e)) (R : Rel C H' s') (k : Kept C.fr [] H H' s.heap s'.heap) (st : Still s s') (ne : Nw H s.heap e) (nt : Nw H s.heap T) (q : X e T H' s'.heap)
theorem PC.fnX {fa : Addr} {o : Obj} {fd : FuncData} {body : List Stmt} {vals : List Value} {Q : Value → AH → Prop} {X : Addr → Addr → AH → Heap → Prop} (O : C.Ok) (hroom : A.depth < recursionLimit)
    (ho : C.h₀.get? fa = some o) (hd : o.data = .func fd) (hcd : C.h₀.CodeRec fd.code fd.qualname)
    (hb : PW C A.in1 nx (bindArgs fd ⟨vals, []⟩) H fun binds H1 => (binds.all fun x => kindOk fd x.1) = true ∧
      ∀ L s1, Rel (C.push L) H1 s1 → FrOk (C.push L) (fnFm fd L fa) (loc0 binds) H1 s1.heap → wpAny (model C.prog C.w) (A.deeper (callEnvC fd L fa)) (execs body (callEnvC fd L fa))
        (TO (C.push L) (fnFm fd L fa) H1 s1 fun fl _ H2 => Q (er (retV fl)) H2) (fun e s' => wpAny (model C.prog C.w) (A.deeper (callEnvC fd L fa)) (leaving (callEnvC fd L fa) e) (fun _ s2 => TX (C.push L) (fnFm fd L fa) H1 s1 X e s2) nx s') s1)
    (hbody : fd.body = .stmts body) (hclo : fd.closure = []) (hgl : fd.globals = mainGlobals) (hbi : fd.builtins = builtinsNs)
    (hfree : ∀ x ∈ fd.scope.names, x.2 ≠ .free)
    (hco : fd.scope.isCoroutine = false) (hgen : fd.scope.isGenerator = false) (hk : fd.scope.kind = .function) {s : Shared} (R : Rel C H s) :
    codeAny (model C.prog C.w) A (.call (.ref fa) ⟨vals, []⟩) (fun r s' => CO C H s (fun v H' => Q (er v) H') r s' ∨ XO C H s X r s') s := by
  refine (codeAny_call_function hroom (R.keep _ _ ho) hd hco hgen hbody (hcd.keeps R.keep) ?_)
  refine wpAny_mono (hb s R) (fun binds s1 ⟨H1, R1, k1, st1, hkd, sw⟩ => ?_) fun _ _ e => e.elim
  rw [hclo]
  have hkind : ∀ x ∈ binds, fd.scope.names.lookup x.1 = some .local ∨ (fd.scope.names.lookup x.1 = some .cell ∧ ((cellsFrom (s1.heap.objs.size + 1) fd.scope.names []).lookup x.1).isSome = true) := by
    intro x hx
    have := List.all_eq_true.mp hkd x hx
    simp only [kindOk, Bool.or_eq_true, beq_iff_eq] at this
    rcases this with h | h
    · exact .inl h
    · exact .inr ⟨h, cellsFrom_some _ _ _ _ h⟩
  refine wpAny_newFunctionEnv_cells hk hkind fun env henv s2 I => ?_
  obtain ⟨⟨⟨h2, tk2, es2⟩, ns, keep, fresh⟩, cell, apart, above⟩ := I
  subst es2
  refine ⟨O.lim.keeps fun b o e => keep b o (R1.keep b o e), ?_⟩
  have hloc : env.locals = s1.heap.objs.size := by rw [henv]; rfl
  have hcells : env.cells = cellsFrom (s1.heap.objs.size + 1) fd.scope.names [] := by rw [henv]; rfl
  have hkof : env.kindOf = fun x => fd.scope.names.lookup x := by rw [henv]; rfl
  have henv' : env = callEnvC fd s1.heap.objs.size fa := henv
  have hdead : ∀ a, s1.heap.objs.size ≤ a → s1.heap.get? a = none := by
    intro a ha
    cases e : s1.heap.get? a with
    | none => rfl
    | some o => exact absurd (Heap.lt_size e) (Nat.not_lt.mpr ha)
  have hb0 : ∀ a, s1.heap.objs.size ≤ a → C.h₀.get? a = none := by
    intro a ha
    cases e : C.h₀.get? a with
    | none => rfl
    | some o => have := R1.keep a o e; rw [hdead a ha] at this; cases this
  have hH0 : ∀ a, s1.heap.objs.size ≤ a → H1 a = none := by
    intro a ha
    cases e : H1 a with
    | none => rfl
    | some o => obtain ⟨x, hx⟩ := (R1.rep a o e).alive; rw [hdead a ha] at hx; cases hx
  have R2 : Rel (C.push s1.heap.objs.size) H1 { s1 with heap := h2, toks := tk2 } := by
    refine ⟨fun b o e => keep b o (R1.keep b o e), fun a o e => (R1.rep a o e).at fun b _ x hx => keep b x hx, R1.low, R1.hid, fun l hl => ?_⟩
    rcases List.mem_cons.mp hl with rfl | hl
    · rw [hloc] at ns
      obtain ⟨o, es, ep, e, hdd, _⟩ := ns
      exact ⟨⟨o, e, fun vs q => by rw [hdd] at q; cases q⟩, hH0 _ (Nat.le_refl _), hb0 _ (Nat.le_refl _)⟩
    · obtain ⟨⟨o, e, nd⟩, q⟩ := R1.live l hl
      exact ⟨⟨o, keep l o e, nd⟩, q⟩
  have nofree : ∀ x, isC env x → env.kindOf x = some .cell := by
    rintro x (h | h)
    · exact h
    · rw [hkof] at h
      exact absurd rfl (hfree _ (mem_of_lookup h))
  have cellsome : ∀ x, isC env x → ∃ c, env.cells.lookup x = some c := by
    intro x hx
    have h := nofree x hx
    rw [hkof] at h
    rw [hcells]
    exact Option.isSome_iff_exists.mp (cellsFrom_some _ _ _ _ h)
  have hlow : ∀ x c, env.cells.lookup x = some c → s1.heap.objs.size ≤ c := by
    intro x c h
    exact Nat.le_trans fresh (Nat.le_of_lt (above x c (mem_of_lookup h)))
  have F2 : FrOk (C.push s1.heap.objs.size) (fnFm fd s1.heap.objs.size fa) (loc0 binds) H1 h2 := by
    have e0 : (fnFm fd s1.heap.objs.size fa).env = env := henv'.symm
    refine ⟨?_, ?_, ?_, ?_, ?_, ?_, ?_, ?_, ?_⟩
    · rw [e0, henv]; exact hk
    · rw [e0, henv]; exact ⟨hgl, hbi⟩
    · rw [e0]
      refine ⟨_, ns, fun x hx => ?_⟩
      rw [bindL_eq _ _ hx]; simp [loc0]
    · rw [e0]
      intro x hx
      obtain ⟨c, hc⟩ := cellsome x hx
      refine ⟨c, _, hc, cell x c hc, ?_⟩
      rw [bindC_eq _ _ (by rw [nofree x hx]; decide)]; simp [loc0]
    · rw [e0]
      intro x y c hx hy h1 h2
      exact name_of_addr apart (mem_of_lookup h1) (mem_of_lookup h2)
    · rw [e0]
      rintro x c hx hc rfl
      exact absurd (above x _ (mem_of_lookup hc)) (Nat.lt_irrefl _)
    · rw [e0]
      exact ⟨hb0 _ (Nat.le_of_eq hloc.symm), fun x c hx hc => hb0 _ (hlow x c hc)⟩
    · rw [e0]
      exact ⟨hH0 _ (Nat.le_of_eq hloc.symm), fun x c hx hc => hH0 _ (hlow x c hc)⟩
    · rw [e0]
      intro a ha
      simp only [fnFm, List.mem_cons, List.mem_filterMap] at ha
      rcases ha with rfl | ⟨⟨x, k⟩, hm, hx⟩
      · exact .inl hloc.symm
      · right
        split at hx
        · rename_i hl
          exact ⟨x, .inl (by rw [hkof]; exact hl), by rw [hcells]; exact hx⟩
        · cases hx
  subst henv'
  have fin : ∀ H3 h3, Kept (C.push s1.heap.objs.size).fr (fnFm fd s1.heap.objs.size fa).ow H1 H3 h2 h3 → Kept C.fr [] H H3 s.heap h3 := by
    intro H3 h3 k3 a o e q hn
    obtain ⟨⟨o1, e1, d1, f1⟩, q1⟩ := k1 a o e q hn
    have hlt := Heap.lt_size e1
    have hnow : a ∉ (fnFm fd s1.heap.objs.size fa).ow := ?_
    · obtain ⟨⟨o2, e2, d2, f2⟩, q2⟩ := k3 a o1 (keep a o1 e1) q1 hnow
      refine ⟨⟨o2, e2, d2.trans d1, fun nf => (f2 fun hm => ?_).trans (f1 nf)⟩, q2⟩
      rcases List.mem_cons.mp hm with rfl | hm
      · exact absurd hlt (Nat.lt_irrefl _)
      · exact nf hm
    intro hm
    rcases F2.own a hm with e' | ⟨x, hx, hc⟩
    · rw [e'] at hlt; exact absurd hlt (by show ¬ s1.heap.objs.size < _; exact Nat.lt_irrefl _)
    · exact absurd (hlow x a hc) (Nat.not_le.mpr hlt)
  have pop : ∀ H3 s3, Rel (C.push s1.heap.objs.size) H3 s3 → Rel C H3 s3 := fun H3 s3 R3 => ⟨R3.keep, R3.rep, R3.low, R3.hid, fun l hl => R3.live l (List.mem_cons_of_mem _ hl)⟩
  refine codeAny_func (wpAny_mono (sw s1.heap.objs.size _ R2 F2) (fun fl s3 ⟨L3, H3, R3, F3, k3, st3, q3⟩ => .inl ⟨_, H3, rfl, pop _ _ R3, fin _ _ k3, ⟨st3.gens.trans st1.gens, st3.os.trans st1.os⟩, by cases fl <;> exact q3⟩) ?_)
  intro e s3 h
  refine wpAny_mono h (fun _ s4 ⟨a, T, H4, ev, R4, k4, st4, ne, nt, q4⟩ => .inr ?_) fun _ _ x => x.elim
  subst ev
  have nw : ∀ b, Nw H1 h2 b → Nw H s.heap b := fun b n o hb Hb => let ⟨⟨o1, e1, _⟩, q1⟩ := k1 b o hb Hb (by simp); n o1 (keep b o1 e1) q1
  exact ⟨a, T, H4, rfl, pop _ _ R4, fin _ _ k4, ⟨st4.gens.trans st1.gens, st4.os.trans st1.os⟩, nw _ ne, nw _ nt, q4⟩
theorem PC.fn {fa : Addr} {o : Obj} {fd : FuncData} {body : List Stmt} {vals : List Value} {Q : Value → AH → Prop} (O : C.Ok) (hroom : A.depth < recursionLimit)
    (ho : C.h₀.get? fa = some o) (hd : o.data = .func fd) (hcd : C.h₀.CodeRec fd.code fd.qualname)
    (hb : PW C A.in1 nx (bindArgs fd ⟨vals, []⟩) H fun binds H1 => (binds.all fun x => kindOk fd x.1) = true ∧
      ∀ L, SW (C.push L) (A.deeper (callEnvC fd L fa)) nx (fnFm fd L fa) body (loc0 binds) H1 fun fl _ H2 => Q (er (retV fl)) H2)
    (hbody : fd.body = .stmts body) (hclo : fd.closure = []) (hgl : fd.globals = mainGlobals) (hbi : fd.builtins = builtinsNs)
    (hfree : ∀ x ∈ fd.scope.names, x.2 ≠ .free)
    (hco : fd.scope.isCoroutine = false) (hgen : fd.scope.isGenerator = false) (hk : fd.scope.kind = .function) :
    PC C A (.call (.ref fa) ⟨vals, []⟩) H fun v H' => Q (er v) H' :=
  fun s R => codeAny_mono (PC.fnX (X := fun _ _ _ _ => False) O hroom ho hd hcd (hb.mono fun binds H1 q => ⟨q.1, fun L s1 R1 F1 => wpAny_mono (q.2 L s1 R1 F1) (fun _ _ z => z) fun _ _ z => z.elim⟩) hbody hclo hgl hbi hfree hco hgen hk R) fun r s' h => h.elim id fun ⟨_, _, _, _, _, _, _, _, _, x⟩ => x.elim
theorem PC.call {fv : Value} {vals : List Value} {Q : Value → AH → Prop} (h : PC C A (.call fv ⟨vals, []⟩) H Q) : PW C A E (call fv vals) H Q := by
  intro s R
  refine wpAny_call (codeAny_mono (h s R) ?_)
  rintro r s' ⟨v, H', rfl, R', k, st, q⟩
  exact ⟨H', R', k, st, q⟩
end

noncomputable def CallP (C : Cx) (A : Around) (E : Value → Shared → Prop) (fv : Value) (vs : List Value) (H : AH) (Q : Value → AH → Prop) : Prop :=
  ∀ f' vs', er f' = fv → vs'.map er = vs → PW C A E (call f' vs') H fun v H' => Q (er v) H'
noncomputable def KeepOk (C : Cx) (fv : Value) (H : AH) : Prop := ∀ f', er f' = fv → ∀ s, Rel C H s → ∃ k, Looks (model C.prog C.w) s.heap (keeperOf f') k

section
variable {α β : Type} {C : Cx} {A : Around} {E : Value → Shared → Prop} {f : Fm} {L : Loc} {H : AH}

theorem KeepOk.builtin {n : String} : KeepOk C (.builtin n) H := by
  intro f' e s R
  rw [er_builtin e]
  exact ⟨.machine, .now⟩
theorem KeepOk.type {n : String} : KeepOk C (.type n) H := by
  intro f' e s R
  rw [er_type e]
  exact ⟨.machine, .now⟩
theorem KeepOk.known (O : C.Ok) {v : Value} (hk : keepIn C.K v = true) (hr : ∃ a, v = .ref a) : KeepOk C v H := by
  intro f' e s R
  obtain ⟨a, rfl⟩ := hr
  rw [er_ref e]
  obtain ⟨k, _, h⟩ := looks_keep (M := model C.prog C.w) hk (O.kin.keeps R.keep)
  exact ⟨k, h⟩

theorem wpAny_callWith {M : Model} {s : Shared} {fv : Value} {first : List Value} {args : List (Bool × Sem Value)} {pos : Pos} {Q : Value → Shared → Prop}
    (h : wpAny M A (evalArgs fv true args []) (fun a s₁ => a.kw = [] ∧ (∃ k, Looks M s₁.heap (keeperOf fv) k) ∧ wpAny M A (call fv (first ++ a.pos)) Q E s₁) E s) :
    wpAny M A (callWith pos fv first args []) Q E s := by
  unfold callWith
  refine wpAny_bind (wpAny_holding (wpAny_mono h (fun a s₁ ⟨hkw, ⟨k, L⟩, h₁⟩ => wpAny_bind (wpAny_standAt ?_)) fun _ _ x => x))
  rw [hkw]
  refine wpAny_bind (L.here ?_)
  have tail : ∀ {t : Sem Value}, wpAny M A t Q E s₁ → wpAny M A (t >>= fun r => holding [r] point >>= fun _ => pure r) Q E s₁ :=
    fun ht => wpAny_bind (wpAny_mono ht (fun r s₂ hr => wpAny_bind (wpAny_holding (wpAny_point (wpAny_pure hr)))) fun _ _ x => x)
  have marked (mk : Value) : wpAny M A (callMarked mk fv (first ++ a.pos) []) Q E s₁ := by unfold callMarked; exact Calls.wpAny_keep h₁
  cases k <;> cases (args.any (·.1) || ([] : List (Option Str × Sem Value)).any (·.1.isNone)) <;> dsimp only <;>
    first | exact tail h₁ | exact tail (marked _) | exact tail (wpAny_operate h₁) | (split <;> first | exact tail h₁ | exact tail (marked _))

theorem evalArgs_none {M : Model} {s : Shared} {fv : Value} {Q : Args → Shared → Prop} (h : wpAny M A (spliced []) (fun vs s' => Q ⟨vs, []⟩ s') E s) : wpAny M A (evalArgs fv true [] []) Q E s := by
  unfold evalArgs
  show wpAny M A (spliced [] >>= _) Q E s
  refine wpAny_bind (wpAny_mono h (fun vs s' h' => ?_) fun _ _ x => x)
  refine wpAny_holding ?_
  exact wpAny_bind (wpAny_pure (wpAny_bind (wpAny_pure (wpAny_pure h'))))
noncomputable def loneStar : List Expr → Bool
  | [.Starred _ _] => true
  | .Starred _ _ :: _ => true
  | _ => false
theorem TW.callWith {fv : Value} {first : List Value} {as : List Expr} {p p' : Pos} {Q : Value → Loc → AH → Prop}
    (h : AW C A E f p' as L H fun vs L1 H1 => KeepOk C (er fv) H1 ∧ CallP C A E (er fv) (first.map er ++ vs) H1 fun v H2 => Q v L1 H2) (hl : loneStar as = false) :
    TW C A E f (PySem.callWith p fv first (backTo p' (starEach as f.env)) []) L H fun v => Q (er v) := by
  intro s R F
  refine wpAny_callWith ?_
  have fin : ∀ {t : Sem (List Value)}, t = spliced (backTo p' (starEach as f.env)) → wpAny (model C.prog C.w) A t (fun vs s' => (∀ a, a = (⟨vs, []⟩ : Args) → a.kw = [] ∧ (∃ k, Looks (model C.prog C.w) s'.heap (keeperOf fv) k) ∧ wpAny (model C.prog C.w) A (call fv (first ++ a.pos)) (TO C f H s fun v => Q (er v)) E s')) E s := by
    rintro t rfl
    refine wpAny_mono (h s R F) (fun vs s1 ⟨L1, H1, R1, F1, k1, st1, hk, hc⟩ => ?_) fun _ _ e => e
    rintro a rfl
    refine ⟨rfl, hk fv rfl s1 R1, ?_⟩
    refine wpAny_mono (hc fv (first ++ vs) rfl (by simp) s1 R1) (fun v s2 ⟨H2, R2, k2, st2, q⟩ => ⟨L1, H2, R2, F1.keeps k2, k1.trans (k2.weak (by simp)), st1.trans st2, q⟩) fun _ _ e => e
  cases as with
  | nil =>
    exact evalArgs_none (wpAny_mono (fin (t := spliced []) rfl) (fun vs s' q => q _ rfl) fun _ _ e => e)
  | cons e rest =>
    have he : isStar e = false := by cases e <;> first | rfl | (cases rest <;> cases hl)
    have hh := starEach_plain (rest := rest) f.env he
    rw [hh]
    rw [hh] at fin
    refine Calls.evalArgs_plain (wpAny_mono (fin (t := spliced ((false, eval e f.env) :: backTo p' (starEach rest f.env))) rfl) (fun vs s' q => q _ rfl) fun _ _ e => e)
theorem EW.call {fn : Expr} {as : List Expr} {p : Pos} {Q : Value → Loc → AH → Prop}
    (h : EW C A E f fn L H fun fv L1 H1 => AW C A E f p as L1 H1 fun vs L2 H2 => KeepOk C fv H2 ∧ CallP C A E fv vs H2 fun v H3 => Q v L2 H3)
    (hn : (match fn with | .Attribute _ _ _ => false | _ => true) = true := by rfl) (hl : loneStar as = false := by rfl) : EW C A E f (.Call fn as [] p) L H Q := by
  have e0 : eval (.Call fn as [] p) f.env = (do PySem.callWith p (← eval fn f.env) [] (backTo p (starEach as f.env)) []) := by
    cases fn <;> first | rfl | cases hn
  unfold EW; rw [e0]
  refine TW.bind (h.mono fun fv L1 H1 q => TW.callWith ?_ hl)
  simpa using q
end

noncomputable def MethP (C : Cx) (A : Around) (E : Value → Shared → Prop) (ov : Value) (name : Str) (H : AH) (Q : Value → List Value → AH → Prop) : Prop :=
  ∀ ov' pl, er ov' = ov → PW C A E (getMethod ov' name pl) H fun r H' => Q (er r.1) (r.2.map er) H'
section
variable {α β : Type} {C : Cx} {A : Around} {E : Value → Shared → Prop} {f : Fm} {L : Loc} {H : AH}

theorem all_plain (p : Pos) (env : Env) : ∀ {as : List Expr}, as.any isStar = false → (backTo p (starEach as env)).all (fun x => !x.1) = true
  | [], _ => rfl
  | e :: rest, h => by
    simp only [List.any_cons, Bool.or_eq_false_iff] at h
    rw [starEach_plain _ h.1]
    show ((!false) && (backTo p (starEach rest env)).all (fun x => !x.1)) = true
    rw [all_plain p env h.2]; rfl
theorem lone_plain : ∀ {as : List Expr}, as.any isStar = false → loneStar as = false
  | [], _ => rfl
  | e :: rest, h => by
    simp only [List.any_cons, Bool.or_eq_false_iff] at h
    cases e <;> first | rfl | cases h.1

theorem EW.method {o : Expr} {name : Str} {apos p : Pos} {as : List Expr} {Q : Value → Loc → AH → Prop}
    (h : EW C A E f o L H fun ov L1 H1 => MethP C A E ov name H1 fun fv first H2 => AW C A E f p as L1 H2 fun vs L3 H3 => KeepOk C fv H3 ∧ CallP C A E fv (first ++ vs) H3 fun v H4 => Q v L3 H4)
    (hb : plainBase o = true := by rfl) (hns : as.any isStar = false := by rfl) (hlen : as.length < 30 := by decide) (hpos : (apos.endLine == p.line) = true := by rfl) :
    EW C A E f (.Call (.Attribute o name apos) as [] p) L H Q := by
  show TW C A E f (do
    let ov ← attributeBase o name f.env (eval o f.env)
    standAt apos.atName
    methodCall o name apos p f.env ov (as.length + 0) (backTo p (starEach as f.env)) []) L H fun v => Q (er v)
  rw [attributeBase_plain _ _ _ hb]
  refine TW.bind (h.mono fun ov L1 H1 q => TW.standAt ?_)
  have hform : methodCallForm (as.length + 0) (backTo p (starEach as f.env)) [] = true := by
    unfold methodCallForm
    rw [all_plain p f.env hns]
    simpa using hlen
  unfold methodCall
  rw [hform]
  unfold calleeOf methodCallPos
  simp only [if_true, hpos, Bool.not_true, Bool.or_true]
  refine TW.bind (TW.holding (TW.of_PW ((q ov _ rfl).mono fun r H2 z => ?_)))
  obtain ⟨fv, first⟩ := r
  refine TW.bind (TW.pure ?_)
  exact TW.callWith z (lone_plain hns)

theorem starCall {fv : Value} {first : List Value} {e : Expr} {p p' sp : Pos} {Q : Value → Loc → AH → Prop}
    (h : EW C A E f e L H fun v L1 H1 => StarP C A E v H1 fun vs H2 => KeepOk C (er fv) H2 ∧ CallP C A E (er fv) (first.map er ++ vs) H2 fun v H3 => Q v L1 H3) :
    TW C A E f (PySem.callWith p fv first (backTo p' (starEach [.Starred e sp] f.env)) []) L H fun v => Q (er v) := by
  intro s R F
  refine wpAny_callWith ?_
  unfold evalArgs
  show wpAny _ _ ((do let v ← eval e f.env; standAt p'; pure v) >>= _) _ _ s
  refine wpAny_bind (wpAny_bind (wpAny_mono (h s R F) (fun v s1 ⟨L1, H1, R1, F1, k1, st1, q1⟩ => wpAny_bind (wpAny_standAt (wpAny_pure (wpAny_bind (wpAny_pure ?_))))) fun _ _ e => e))
  refine wpAny_holding ?_
  show wpAny _ _ (if true = true then _ else _) _ _ _
  simp only [if_true]
  refine wpAny_bind (wpAny_pure (wpAny_bind ?_))
  refine wpAny_bind (wpAny_mono (q1 v rfl s1 R1) (fun b s2 ⟨H2, R2, k2, st2, hb, q2⟩ => ?_) fun _ _ e => e)
  subst hb
  simp only [Bool.false_eq_true, if_false]
  refine wpAny_holding (wpAny_mono (q2 s2 R2) (fun vs s3 ⟨H3, R3, k3, st3, hk, hc⟩ => wpAny_pure ⟨rfl, hk fv rfl s3 R3, ?_⟩) fun _ _ e => e)
  have F3 := (F1.keeps k2).keeps k3
  refine wpAny_mono (hc fv (first ++ vs) rfl (by simp) s3 R3) (fun v s4 ⟨H4, R4, k4, st4, q⟩ => ⟨L1, H4, R4, F3.keeps k4, k1.trans ((k2.trans (k3.trans k4)).weak (by simp)), st1.trans (st2.trans (st3.trans st4)), q⟩) fun _ _ e => e

theorem any_star (p : Pos) (env : Env) : ∀ {as : List Expr}, as.any isStar = true → (backTo p (starEach as env)).all (fun x => !x.1) = false
  | e :: rest, h => by
    cases hs : isStar e with
    | true =>
      cases e <;> first | cases hs | skip
      show ((!true) && _) = false
      rfl
    | false =>
      simp only [List.any_cons, hs, Bool.false_or] at h
      rw [starEach_plain _ hs]
      show ((!false) && (backTo p (starEach rest env)).all (fun x => !x.1)) = false
      rw [any_star p env h]; rfl
theorem EW.methodS {o : Expr} {name : Str} {apos p : Pos} {as : List Expr} {Q : Value → Loc → AH → Prop}
    (h : EW C A E f o L H fun ov L1 H1 => P1 C A E (fun o => getAttr o name true) ov H1 fun fv H2 => AW C A E f p as L1 H2 fun vs L3 H3 => KeepOk C (er fv) H3 ∧ CallP C A E (er fv) vs H3 fun v H4 => Q v L3 H4)
    (hb : plainBase o = true := by rfl) (hs : as.any isStar = true := by rfl) (hl : loneStar as = false := by rfl) :
    EW C A E f (.Call (.Attribute o name apos) as [] p) L H Q := by
  show TW C A E f (do
    let ov ← attributeBase o name f.env (eval o f.env)
    standAt apos.atName
    methodCall o name apos p f.env ov (as.length + 0) (backTo p (starEach as f.env)) []) L H fun v => Q (er v)
  rw [attributeBase_plain _ _ _ hb]
  refine TW.bind (h.mono fun ov L1 H1 q => TW.standAt ?_)
  have hform : methodCallForm (as.length + 0) (backTo p (starEach as f.env)) [] = false := by
    unfold methodCallForm
    rw [any_star p f.env hs]; rfl
  unfold methodCall
  rw [hform]
  unfold calleeOf methodCallPos
  simp only [Bool.false_eq_true, if_false, Bool.not_false, Bool.true_or, if_true]
  refine TW.bind (TW.holding (TW.bind (TW.of_PW ((q ov rfl).mono fun r H2 z => TW.pure ?_))))
  refine TW.bind (TW.pure ?_)
  exact TW.callWith (first := []) z hl
theorem EW.methodL {o e : Expr} {name : Str} {apos p sp : Pos} {Q : Value → Loc → AH → Prop}
    (h : EW C A E f o L H fun ov L1 H1 => P1 C A E (fun o => getAttr o name true) ov H1 fun fv H2 => EW C A E f e L1 H2 fun v L3 H3 => StarP C A E v H3 fun vs H4 => KeepOk C (er fv) H4 ∧ CallP C A E (er fv) vs H4 fun v H5 => Q v L3 H5)
    (hb : plainBase o = true := by rfl) :
    EW C A E f (.Call (.Attribute o name apos) [.Starred e sp] [] p) L H Q := by
  show TW C A E f (do
    let ov ← attributeBase o name f.env (eval o f.env)
    standAt apos.atName
    methodCall o name apos p f.env ov 1 (backTo p (starEach [.Starred e sp] f.env)) []) L H fun v => Q (er v)
  rw [attributeBase_plain _ _ _ hb]
  refine TW.bind (h.mono fun ov L1 H1 q => TW.standAt ?_)
  have hform : methodCallForm 1 (backTo p (starEach [.Starred e sp] f.env)) [] = false := rfl
  unfold methodCall
  rw [hform]
  unfold calleeOf methodCallPos
  simp only [Bool.false_eq_true, if_false, Bool.not_false, Bool.true_or, if_true]
  refine TW.bind (TW.holding (TW.bind (TW.of_PW ((q ov rfl).mono fun r H2 z => TW.pure ?_))))
  refine TW.bind (TW.pure ?_)
  exact starCall (first := []) z
end

noncomputable def upd (H : AH) (a : Addr) (o : AO) : AH := fun b => if b = a then some o else H b
theorem upd_self (H : AH) (a : Addr) (o : AO) : upd H a o a = some o := by simp [upd]
theorem upd_ne (H : AH) {a b : Addr} (o : AO) (h : b ≠ a) : upd H a o b = H b := by simp [upd, h]
noncomputable def AO.simple : AO → Bool
  | .inst _ _ _ _ => false
  | .hid _ => false
  | .blist _ => false
  | _ => true
section
variable {α β : Type} {C : Cx} {A : Around} {E : Value → Shared → Prop} {f : Fm} {L : Loc} {H : AH}

theorem Rel.dead {s : Shared} (R : Rel C H s) {a : Addr} (h : s.heap.get? a = none) : H a = none ∧ C.h₀.get? a = none := by
  constructor
  · cases e : H a with
    | none => rfl
    | some o => obtain ⟨x, hx⟩ := (R.rep a o e).alive; rw [h] at hx; cases hx
  · cases e : C.h₀.get? a with
    | none => rfl
    | some o => have := R.keep a o e; rw [h] at this; cases this

theorem Rel.big {s : Shared} (R : Rel C H s) : sysModules < s.heap.objs.size := by
  obtain ⟨o, e⟩ := C.pin
  have h3 : (3 : Nat) < s.heap.objs.size := Heap.lt_size (R.keep _ _ e)
  exact Nat.lt_trans (by decide : (1 : Nat) < 3) h3
theorem Rel.notMods {s : Shared} (R : Rel C H s) {a : Addr} {o : AO} (ha : H a = some o) (hs : o.simple = true) : (a == sysModules) = false := by
  rcases R.low a o ha with h | ⟨xs, rfl⟩
  · exact beq_eq_false_iff_ne.mpr h.2
  · cases hs
theorem Rel.alloc' {s : Shared} {h' : Heap} {tk : Nat} {a : Addr} {o : AO} (R : Rel C H s) (hd : s.heap.get? a = none) (hk : ∀ b x, s.heap.get? b = some x → h'.get? b = some x) (hr : Rep C h' a o) (hs : o.simple = true) (hm : a ≠ sysModules) :
    Rel C (upd H a o) { s with heap := h', toks := tk } ∧ Kept C.fr [] H (upd H a o) s.heap h' := by
  obtain ⟨hH, h0⟩ := R.dead hd
  refine ⟨⟨fun b x e => hk b x (R.keep b x e), fun b x e => ?_, fun b x e => ?_, fun b c d fs sl e => ?_, fun l hl => ?_⟩, .mk fun b x e q _ => ⟨hk b x e, ?_⟩⟩
  · unfold upd at e
    split at e
    · rename_i hb; subst hb; cases e; exact hr
    · exact (R.rep b x e).at fun c _ y hy => hk c y hy
  · unfold upd at e
    split at e
    · rename_i hb; subst hb; exact .inl ⟨h0, hm⟩
    · exact R.low b x e
  · unfold upd at e
    split at e
    · cases e; cases hs
    · have := R.hid b c d fs sl e
      rw [upd_ne _ _ (by first | exact no_some (hH) this | exact (no_some (hH) this).symm | exact no_some this (hH) | exact (no_some this (hH)).symm | exact two_ne (hH) this (by intro q; cases q; done) | exact (two_ne (hH) this (by intro q; cases q; done)).symm | (rintro rfl; rw [hH] at this; cases this))]; exact this
  · obtain ⟨⟨x, e, nd⟩, q1, q2⟩ := R.live l hl
    refine ⟨⟨x, hk l x e, nd⟩, ?_, q2⟩
    rw [upd_ne _ _ (by first | exact no_some (hd) e | exact (no_some (hd) e).symm | exact no_some e (hd) | exact (no_some e (hd)).symm | exact two_ne (hd) e (by intro q; cases q; done) | exact (two_ne (hd) e (by intro q; cases q; done)).symm | (rintro rfl; rw [hd] at e; cases e))]; exact q1
  · rw [upd_ne _ _ (by first | exact no_some (hd) e | exact (no_some (hd) e).symm | exact no_some e (hd) | exact (no_some e (hd)).symm | exact two_ne (hd) e (by intro q; cases q; done) | exact (two_ne (hd) e (by intro q; cases q; done)).symm | (rintro rfl; rw [hd] at e; cases e))]; exact q

theorem Rel.alloc {s : Shared} {h' : Heap} {tk : Nat} {a : Addr} {o : AO} (R : Rel C H s) (hd : s.heap.get? a = none) (hk : ∀ b x, s.heap.get? b = some x → h'.get? b = some x) (hr : Rep C h' a o) (hs : o.simple = true) (hm : s.heap.objs.size ≤ a := by exact Nat.le_refl _) :
    Rel C (upd H a o) { s with heap := h', toks := tk } ∧ Kept C.fr [] H (upd H a o) s.heap h' := R.alloc' hd hk hr hs (Nat.ne_of_gt (Nat.lt_of_lt_of_le R.big hm))
theorem Rel.set {s : Shared} {h' : Heap} {tk : Nat} {a : Addr} {o o' : AO} (R : Rel C H s) (ha : H a = some o) (hk : ∀ b x, b ≠ a → s.heap.get? b = some x → h'.get? b = some x) (hr : Rep C h' a o') (hs : o.simple = true) (hs' : o'.simple = true) :
    Rel C (upd H a o') { s with heap := h', toks := tk } ∧ Kept C.fr [] H (upd H a o') s.heap h' := by
  have h00 : C.h₀.get? a = none ∧ a ≠ sysModules := by
    rcases R.low a o ha with h | ⟨xs, rfl⟩
    · exact h
    · cases hs
  have h0 := h00.1
  refine ⟨⟨fun b x e => hk b x (by first | exact no_some (h0) e | exact (no_some (h0) e).symm | exact no_some e (h0) | exact (no_some e (h0)).symm | exact two_ne (h0) e (by intro q; cases q; done) | exact (two_ne (h0) e (by intro q; cases q; done)).symm | (rintro rfl; rw [h0] at e; cases e)) (R.keep b x e), fun b x e => ?_, fun b x e => ?_, fun b c d fs sl e => ?_, fun l hl => ?_⟩, .mk fun b x e q _ => ⟨hk b x (by first | exact no_some (ha) q | exact (no_some (ha) q).symm | exact no_some q (ha) | exact (no_some q (ha)).symm | exact two_ne (ha) q (by intro q; cases q; done) | exact (two_ne (ha) q (by intro q; cases q; done)).symm | (rintro rfl; rw [ha] at q; cases q)) e, ?_⟩⟩
  · unfold upd at e
    split at e
    · rename_i hb; subst hb; cases e; exact hr
    · rename_i hb
      refine (R.rep b x e).at fun c hc y hy => hk c y ?_ hy
      rintro rfl
      cases x with
      | inst c' d fs sl =>
        simp only [AO.foot, List.mem_cons, List.not_mem_nil, or_false] at hc
        rcases hc with rfl | rfl
        · exact hb rfl
        · have := R.hid b c' _ fs sl e
          rw [ha] at this; cases this; cases hs
      | _ => simp only [AO.foot, List.mem_singleton] at hc; exact hb hc.symm
  · unfold upd at e
    split at e
    · rename_i hb; subst hb; exact .inl h00
    · exact R.low b x e
  · unfold upd at e
    split at e
    · cases e; cases hs'
    · have := R.hid b c d fs sl e
      rw [upd_ne _ _ (by rintro rfl; rw [ha] at this; cases this; cases hs)]; exact this
  · obtain ⟨⟨x, e, nd⟩, q1, q2⟩ := R.live l hl
    have hne : l ≠ a := by first | exact no_some (ha) q1 | exact (no_some (ha) q1).symm | exact no_some q1 (ha) | exact (no_some q1 (ha)).symm | exact two_ne (ha) q1 (by intro q; cases q; done) | exact (two_ne (ha) q1 (by intro q; cases q; done)).symm | (rintro rfl; rw [ha] at q1; cases q1)
    exact ⟨⟨x, hk l x hne e, nd⟩, by rw [upd_ne _ _ hne]; exact q1, q2⟩
  · rw [upd_ne _ _ (by first | exact no_some (ha) q | exact (no_some (ha) q).symm | exact no_some q (ha) | exact (no_some q (ha)).symm | exact two_ne (ha) q (by intro q; cases q; done) | exact (two_ne (ha) q (by intro q; cases q; done)).symm | (rintro rfl; rw [ha] at q; cases q))]; exact q

theorem PW.newList {vs : List Value} {Q : Value → AH → Prop} (h : ∀ a, H a = none → Q (.ref a) (upd H a (.list (vs.map er)))) (hsz : vs.length ≤ sizeLine) : PW C A E (PySem.newList vs) H Q := by
  intro s R
  refine wpAny_newList ?_ hsz
  have hr : Rep C (s.heap.push { cls := .type "list", data := .seq vs.toArray }) s.heap.objs.size (.list (vs.map er)) := ⟨vs.toArray, 0, Heap.get?_push_size _ rfl, by simp⟩
  obtain ⟨R', k⟩ := R.alloc (tk := s.toks) (Mine.dead _) (fun b x e => Heap.get?_push_of_some _ e) hr rfl
  exact ⟨_, R', k, ⟨rfl, rfl⟩, h _ (R.dead (Mine.dead _)).1⟩
theorem PW.newTuple {vs : List Value} {Q : Value → AH → Prop} (h : ∀ a, H a = none → Q (.ref a) (upd H a (.tuple (vs.map er)))) (hsz : vs.length ≤ sizeLine) : PW C A E (PySem.newTuple vs) H Q := by
  intro s R
  refine wpAny_newTuple ?_ hsz
  have hr : Rep C (s.heap.push { cls := .type "tuple", data := .seq vs.toArray }) s.heap.objs.size (.tuple (vs.map er)) := ⟨vs.toArray, 0, Heap.get?_push_size _ rfl, by simp⟩
  obtain ⟨R', k⟩ := R.alloc (tk := s.toks) (Mine.dead _) (fun b x e => Heap.get?_push_of_some _ e) hr rfl
  exact ⟨_, R', k, ⟨rfl, rfl⟩, h _ (R.dead (Mine.dead _)).1⟩
theorem PW.newDict {Q : Value → AH → Prop} (h : ∀ a, H a = none → Q (.ref a) (upd H a (.dict [] 0))) : PW C A E PySem.newDict H Q := by
  intro s R
  have hr : Rep C (s.heap.push { cls := .type "dict", data := .dict #[] }) s.heap.objs.size (.dict [] 0) := by
    refine ⟨[], ⟨_, #[], Heap.get?_push_size _ rfl, ⟨rfl, rfl, rfl⟩, rfl, fun _ he => by simp at he, ?_, List.nodup_nil⟩, rfl⟩
    exact .nil
  obtain ⟨R', k⟩ := R.alloc (tk := s.toks) (Mine.dead _) (fun b x e => Heap.get?_push_of_some _ e) hr rfl
  have := (h _ (R.dead (Mine.dead s.heap)).1)
  unfold PySem.newDict
  refine wpAny_bind (wpAny_alloc (wpAny_pure ⟨_, R', k, ⟨rfl, rfl⟩, this⟩))

theorem EW.list {es : List Expr} {p : Pos} {Q : Value → Loc → AH → Prop} (h : AW C A E f p es L H fun vs L1 H1 => vs.length ≤ sizeLine ∧ ∀ a, H1 a = none → Q (.ref a) L1 (upd H1 a (.list vs))) : EW C A E f (.List es p) L H Q := by
  show TW C A E f (do standAt p; PySem.newList (← spliced (backTo p (starEach es f.env)))) L H _
  refine TW.standAt (TW.bind (TW.mono h fun vs L1 H1 q => TW.of_PW (PW.newList (fun a ha => q.2 a ha) (by simpa using q.1))))
theorem EW.tuple {es : List Expr} {k : Nat} {p : Pos} {Q : Value → Loc → AH → Prop} (h : AW C A E f p es L H fun vs L1 H1 => vs.length ≤ sizeLine ∧ ∀ a, H1 a = none → Q (.ref a) L1 (upd H1 a (.tuple vs))) : EW C A E f (.Tuple es k p) L H Q := by
  show TW C A E f (do standAt p; PySem.newTuple (← spliced (backTo p (starEach es f.env)))) L H _
  refine TW.standAt (TW.bind (TW.mono h fun vs L1 H1 q => TW.of_PW (PW.newTuple (fun a ha => q.2 a ha) (by simpa using q.1))))
theorem EW.dict0 {p : Pos} {Q : Value → Loc → AH → Prop} (h : ∀ a, H a = none → Q (.ref a) L (upd H a (.dict [] 0))) : EW C A E f (.Dict [] [] p) L H Q := by
  show TW C A E f (do standAt p; dictDisplay []) L H _
  have e : dictDisplay [] = PySem.newDict := rfl
  rw [e]
  exact TW.standAt (TW.of_PW (PW.newDict h))

theorem XW.augSub {o i e : Expr} {sp p : Pos} {op : Operator} {Q : Flow → Loc → AH → Prop}
    (h : EW C A E f o L H fun ov L1 H1 => EW C A E f i L1 H1 fun iv L2 H2 => P2 C A E getItem ov iv H2 fun old H3 => EW C A E f e L2 H3 fun v L4 H4 => P2 C A E (inplaceOp op) (er old) v H4 fun new H5 =>
      ∀ o' i', er o' = ov → er i' = iv → PW C A E (setItem o' i' new) H5 fun _ H6 => Q .next L4 H6)
    (hi : (match i with | .Slice _ _ _ _ => false | _ => true) = true := by rfl) : XW C A E f (.AugAssign (.Subscript o i sp) op e p) L H Q := by
  unfold XW
  rw [arm_exec_AugAssign_3]
  refine TW.standAt (TW.bind (h.mono fun ov L1 H1 q => TW.bind (TW.holding (q.mono fun iv L2 H2 q => TW.bind (TW.holding (TW.standAt (TW.bind (TW.of_PW ((q ov iv rfl rfl).mono fun old H3 q => ?_)))))))))
  refine TW.bind (TW.holding (q.mono fun v L4 H4 q => TW.standAt (TW.operate (TW.of_PW ((q old v rfl rfl).mono fun new H5 q => ?_)))))
  refine TW.standAt ?_
  have e1 : augStore i ov iv new = (do holding [new, ov, iv] (setItem ov iv new); PySem.release [new, ov, iv] []; pure .next) := by
    cases i <;> first | rfl | cases hi
  rw [e1]
  exact TW.bind (TW.holding (TW.of_PW ((q ov iv rfl rfl).mono fun _ H6 q => TW.release (TW.pure q))))
theorem XW.augAttr {o e : Expr} {a : Str} {tp p : Pos} {op : Operator} {Q : Flow → Loc → AH → Prop}
    (h : EW C A E f o L H fun ov L1 H1 => P1 C A E (fun o => getAttr o a true) ov H1 fun old H3 => EW C A E f e L1 H3 fun v L4 H4 => P2 C A E (inplaceOp op) (er old) v H4 fun new H5 =>
      ∀ o' v', er o' = ov → er v' = er new → TW C A E f (setAttr o' a v') L4 H5 fun _ L6 H6 => Q .next L6 H6) : XW C A E f (.AugAssign (.Attribute o a tp) op e p) L H Q := by
  unfold XW
  rw [arm_exec_AugAssign_2]
  refine TW.standAt (TW.bind (h.mono fun ov L1 H1 q => TW.bind (TW.holding (TW.standAt (TW.bind (TW.of_PW ((q ov rfl).mono fun old H3 q => ?_)))))))
  refine TW.bind (TW.holding (q.mono fun v L4 H4 q => TW.standAt (TW.operate (TW.of_PW ((q old v rfl rfl).mono fun new H5 q => ?_)))))
  exact TW.standAt (TW.bind (TW.holding ((q ov new rfl rfl).mono fun _ L6 H6 q => TW.release (TW.pure q))))
theorem XW.delSub {o i : Expr} {sp p : Pos} {Q : Flow → Loc → AH → Prop}
    (h : EW C A E f o L H fun ov L1 H1 => EW C A E f i L1 H1 fun iv L2 H2 => P2 C A E delItem ov iv H2 fun _ H3 => Q .next L2 H3) : XW C A E f (.Delete [.Subscript o i sp] p) L H Q := by
  show TW C A E f (do standAt p; (do delete (.Subscript o i sp) f.env; pure ()); pure .next) L H Q
  rw [arm_delete_Subscript]
  exact TW.standAt (TW.bind (TW.bind (TW.bind (h.mono fun ov L1 H1 q => TW.bind (TW.holding (q.mono fun iv L2 H2 q => TW.standAt (TW.bind (TW.holding (TW.of_PW ((q ov iv rfl rfl).mono fun _ H3 q => TW.release' (TW.pure (TW.pure q)))))))))))) 
end

noncomputable def loopC (step : Value → Loc → AH → (Loc → AH → Prop) → Prop) (D : AH → Prop) : List Value → Loc → AH → (Loc → AH → Prop) → Prop
  | [], L, H, Q => Q L H
  | x :: xs, L, H, Q => step x L H fun L1 H1 => D H1 ∧ loopC step D xs L1 H1 Q
noncomputable def IfsW (C : Cx) (A : Around) (f : Fm) : List Expr → Loc → AH → (Bool → Loc → AH → Prop) → Prop
  | [], L, H, Q => Q true L H
  | c :: cs, L, H, Q => BW C A nx f c L H fun b L1 H1 => if b then IfsW C A f cs L1 H1 Q else Q false L1 H1
noncomputable def turnC (C : Cx) (A : Around) (f : Fm) (g : Comprehension) (k : Loc → AH → (Loc → AH → Prop) → Prop) (x : Value) (L : Loc) (H : AH) (Q : Loc → AH → Prop) : Prop :=
  GW C A nx f g.target x L H fun L1 H1 => IfsW C A f g.ifs L1 H1 fun ok L2 H2 => if ok then k L2 H2 Q else Q L2 H2
noncomputable def CompG (C : Cx) (A : Around) (f : Fm) (em : Loc → AH → (Loc → AH → Prop) → Prop) : List Comprehension → Loc → AH → (Loc → AH → Prop) → Prop
  | [], L, H, Q => em L H Q
  | g :: gs, L, H, Q => EW C A nx f g.iter L H fun x L1 H1 => ∃ xs D, D H1 ∧ IterP C A x xs D ∧ loopC (turnC C A f g (CompG C A f em gs)) D xs L1 H1 Q
noncomputable def plainGen (f : Fm) (g : Comprehension) : Prop := g.is_async = 0 ∧ ∀ x, foldedSetIterable g.iter f.env x = pure x

noncomputable def turnTree (e : Expr) (gens : List Comprehension) (emit : Sem Unit) (depth : Nat) (it acc : Value) (env : Env) : Sem Fin := do
  let some g := gens[depth]? | unsupported "internal:comprehension-depth"
  standAt (if g.is_async != 0 then e.pos else g.iter.pos)
  match ← if g.is_async != 0 then asyncNext it else pyNext it with
  | none => pure (.done .next)
  | some v =>
    letOwnedTupleGo g.target it v
    assign g.target env v
    let mut ok := true
    for c in g.ifs do
      if ok then ok ← isTrue c env (eval c env)
    if ok then
      match gens[depth + 1]? with
      | some g' =>
        let x ← eval g'.iter env
        standAt g'.iter.pos
        let x ← if g'.is_async != 0 then foldedIterable g'.iter x else foldedSetIterable g'.iter env x
        let _ ← runOwn (.compStart e (depth + 1) (← holding [x] (if g'.is_async != 0 then asyncIter x else pyIter x)) acc env) env
      | none => emit
    again (.compLoop e depth it acc env)
theorem turn_list (elt : Expr) (gens : List Comprehension) (sc : Scope) (p : Pos) (d : Nat) (it acc : Value) (env : Env) :
    compTurn (.ListComp elt gens sc p) d it acc env = turnTree (.ListComp elt gens sc p) gens (do let _ ← call (.builtin "list.append") [acc, ← eval elt env]) d it acc env := rfl
noncomputable def dictEmit (k v : Expr) (acc : Value) (env : Env) : Sem Unit := do
  let kv ← eval k env
  let vv ← holding [kv] (eval v env)
  match acc with
  | .ref d => do
    standAt { k.pos with endLine := v.pos.endLine, endCol := v.pos.endCol }
    holding [kv, vv] (dictSet d kv vv)
  | _ => unsupported "internal:dictcomp"
section
variable {α β : Type} {C : Cx} {A : Around} {E : Value → Shared → Prop} {f : Fm} {L : Loc} {H : AH}

theorem ifs_sound {s : Shared} : ∀ {cs : List Expr} {L : Loc} {H : AH} {Q : Bool → Loc → AH → Prop}, IfsW C A f cs L H Q → ∀ {s : Shared}, Rel C H s → FrOk C f L H s.heap →
    wpAny (model C.prog C.w) A (forIn cs true fun c r => if r = true then do let ok ← isTrue c f.env (eval c f.env); pure (ForInStep.yield ok) else pure (ForInStep.yield r))
      (TO C f H s Q) nx s
  | [], L, H, Q, h, s, R, F => by rw [List.forIn_nil]; exact wpAny_pure ⟨L, H, R, F, .refl, .refl, h⟩
  | c :: cs, L, H, Q, h, s, R, F => by
    rw [List.forIn_cons]
    simp only [if_true]
    refine wpAny_bind (wpAny_bind (wpAny_mono (h s R F) (fun b s1 ⟨L1, H1, R1, F1, k1, st1, q1⟩ => wpAny_pure ?_) fun _ _ e => e))
    cases b with
    | true => exact wpAny_mono (ifs_sound (s := s) q1 R1 F1) (fun ok s2 ⟨L2, H2, R2, F2, k2, st2, q2⟩ => ⟨L2, H2, R2, F2, k1.trans k2, st1.trans st2, q2⟩) fun _ _ e => e
    | false =>
      have key : ∀ cs : List Expr, forIn cs false (fun c (r : Bool) => if r = true then do let ok ← isTrue c f.env (eval c f.env); pure (ForInStep.yield ok) else pure (ForInStep.yield r)) = (pure false : Sem Bool) := by
        intro cs
        induction cs with
        | nil => rfl
        | cons c cs ih => rw [List.forIn_cons]; simp only [Bool.false_eq_true, if_false]; exact ih
      dsimp only
      rw [key cs]
      exact wpAny_pure ⟨L1, H1, R1, F1, k1, st1, q1⟩

noncomputable def innerTree (e : Expr) (gens : List Comprehension) (emit : Sem Unit) (d : Nat) (acc : Value) (env : Env) : Sem Unit :=
  match gens[d + 1]? with
  | some g' => do
    let x ← eval g'.iter env
    standAt g'.iter.pos
    let x ← if g'.is_async != 0 then foldedIterable g'.iter x else foldedSetIterable g'.iter env x
    let _ ← runOwn (.compStart e (d + 1) (← holding [x] (if g'.is_async != 0 then asyncIter x else pyIter x)) acc env) env
    pure ()
  | none => emit

noncomputable def KeptI (fr ow : List Addr) (I : Addr) (H H' : AH) (h h' : Heap) : Prop :=
  ∀ a o, a ≠ I → h.get? a = some o → H a = none → a ∉ ow → (∃ o', h'.get? a = some o' ∧ o'.data = o.data ∧ (a ∉ fr → o' = o)) ∧ H' a = none
noncomputable def EndC (C : Cx) (f : Fm) (I : Addr) (H : AH) (s0 : Shared) (Q : Loc → AH → Prop) (r : Result) (s' : Shared) : Prop :=
  ∃ L' H', r = .ok .next ∧ Rel C H' s' ∧ FrOk C f L' H' s'.heap ∧ KeptI C.fr f.ow I H H' s0.heap s'.heap ∧ Still s0 s' ∧ Q L' H'

inductive CmpI (C : Cx) (f : Fm) (I : Addr) (H : AH) (s0 : Shared) (m : Nat) (P : Nat → Loc → AH → Heap → Prop) (n : Nat) (s : Shared) : Prop
  | mk (i : Nat) (L2 : Loc) (H2 : AH) (e : n = m + 1 - i) (hi : i ≤ m) (R2 : Rel C H2 s) (F2 : FrOk C f L2 H2 s.heap) (k2 : KeptI C.fr f.ow I H H2 s0.heap s.heap) (st2 : Still s0 s) (p : P i L2 H2 s.heap)
theorem comp_level {e : Expr} {gens : List Comprehension} {acc : Value} {emit : Sem Unit} {k : Loc → AH → (Loc → AH → Prop) → Prop} {d : Nat} {g : Comprehension}
    (ht : ∀ it, compTurn e d it acc f.env = turnTree e gens emit d it acc f.env) (hcl : clausesOf e = gens)
    (hfr : ∀ it, (Code.compStart e d it acc f.env).isFrame = false ∧ (Code.compLoop e d it acc f.env).isFrame = false)
    (hw : ∀ it, A.under (Code.compStart e d it acc f.env) = A ∧ A.under (Code.compLoop e d it acc f.env) = A)
    (hq : ∀ it, (Code.compStart e d it acc f.env).quiet = true ∧ (Code.compLoop e d it acc f.env).quiet = true)
    (hg : gens[d]? = some g) (hp : plainGen f g)
    (hin : ∀ L H Q, k L H Q → TW C A nx f (innerTree e gens emit d acc f.env) L H fun _ => Q)
    {I : Addr} {xs : List Value} {D : AH → Prop} {S : Nat → Heap → Prop} {L : Loc} {H : AH} {Q : Loc → AH → Prop} {s0 : Shared}
    (sp : ItSpec C A I xs D S) (S0 : S 0 s0.heap) (R0 : Rel C H s0) (F0 : FrOk C f L H s0.heap) (d0 : D H) (HI : H I = none) (b0 : C.h₀.get? I = none)
    (n1 : f.env.locals ≠ I) (n2 : ∀ x c, isC f.env x → f.env.cells.lookup x = some c → c ≠ I) (n3 : I ∉ f.ow) (n4 : I ∉ C.fr)
    (lw : loopC (turnC C A f g k) D xs L H Q) :
    codeAny (model C.prog C.w) A (.compStart e d (.ref I) acc f.env) (EndC C f I H s0 Q) s0 := by
  have hloop : codeAny (model C.prog C.w) A (.compLoop e d (.ref I) acc f.env) (EndC C f I H s0 Q) s0 := by
    refine codeAny_loop (hq _).2 (CmpI C f I H s0 xs.length (fun i L2 H2 h => An4 (D H2) (S i h) (H2 I = none) (loopC (turnC C A f g k) D (xs.drop i) L2 H2 Q))) ?_ (xs.length + 1)
      ⟨0, L, H, by simp, by simp, R0, F0, fun a o _ e q _ => ⟨⟨o, e, rfl, fun _ => rfl⟩, q⟩, .refl, d0, S0, HI, lw⟩
    rintro n s ⟨i, L2, H2, rfl, hi, R2, F2, k2, st2, d2, S2, HI2, lw2⟩
    rw [(hw _).2]
    have hden : (model C.prog C.w).den (.compLoop e d (.ref I) acc f.env) = (compTurn e d (.ref I) acc f.env).onRaise (fun x => do noteFrame x f.env; theTreesLotGoes x) := by
      show (if (Code.compLoop e d (.ref I) acc f.env).isFrame = true then _ else _) = _
      rw [(hfr _).2]; rfl
    rw [hden]
    refine wpAny_noted ?_
    rw [ht]
    unfold turnTree
    rw [hg]
    have ha : (g.is_async != 0) = false := by rw [hp.1]; rfl
    simp only [ha, Bool.false_eq_true, if_false]
    refine wpAny_bind (wpAny_standAt ?_)
    by_cases hlt : i < xs.length
    · have hx : xs[i]? = some xs[i] := List.getElem?_eq_getElem hlt
      refine wpAny_bind (sp.item i xs[i] H2 s _ _ hx S2 R2 d2 fun v h2 tk2 ev S3 hk2 => ?_)
      dsimp only
      refine wpAny_bind (sp.go g.target v (i + 1) _ _ _ S3 ?_)
      have hdrop : xs.drop i = xs[i] :: xs.drop (i + 1) := List.drop_eq_getElem_cons hlt
      rw [hdrop] at lw2
      have R3 : Rel C H2 { s with heap := h2, toks := tk2 } := R2.only hk2 HI2 b0 n4
      have F3 : FrOk C f L2 H2 h2 := F2.only hk2 n1 n2
      refine wpAny_bind (wpAny_mono (lw2 v ev _ R3 F3) (fun _ s4 ⟨L4, H4, R4, F4, k4, st4, q4⟩ => ?_) fun _ _ e => e.elim)
      refine wpAny_bind (wpAny_mono (ifs_sound (s := s) q4 R4 F4) (fun ok s5 ⟨L5, H5, R5, F5, k5, st5, q5⟩ => ?_) fun _ _ e => e.elim)
      have fin : ∀ s6 L6 H6, Rel C H6 s6 → FrOk C f L6 H6 s6.heap → Kept C.fr f.ow H2 H6 h2 s6.heap → Still { s with heap := h2, toks := tk2 } s6 → (D H6 ∧ loopC (turnC C A f g k) D (xs.drop (i + 1)) L6 H6 Q) →
          ∃ m, m < xs.length + 1 - i ∧ CmpI C f I H s0 xs.length (fun i L2 H2 h => An4 (D H2) (S i h) (H2 I = none) (loopC (turnC C A f g k) D (xs.drop i) L2 H2 Q)) m s6 := by
        intro s6 L6 H6 R6 F6 k6 st6 q6
        obtain ⟨oI, eI⟩ := sp.alive _ _ S3
        refine ⟨xs.length + 1 - (i + 1), by lia, i + 1, L6, H6, rfl, by lia, R6, F6, ?_, ⟨st6.gens.trans st2.gens, st6.os.trans st2.os⟩, q6.1, sp.frame _ _ _ S3 fun o e => (k6.at e HI2 n3 n4).1, (k6.at eI HI2 n3 n4).2, q6.2⟩
        intro a o hne e q hn
        obtain ⟨⟨o2, e2, d2, f2⟩, q2⟩ := k2 a o hne e q hn
        obtain ⟨⟨o3, e3, d3, f3⟩, q3⟩ := k6 a o2 (hk2 a o2 hne e2) q2 hn
        exact ⟨⟨o3, e3, d3.trans d2, fun nf => (f3 nf).trans (f2 nf)⟩, q3⟩
      cases ok with
      | false =>
        simp only [Bool.false_eq_true, if_false]
        exact wpAny_pure ⟨rfl, fin s5 L5 H5 R5 F5 (k4.trans k5) (st4.trans st5) q5⟩
      | true =>
        simp only [if_true]
        have hin' := hin L5 H5 _ q5 s5 R5 F5
        have e2 : ∀ (t : Sem Unit) (K : Fin → Shared → Prop), wpAny (model C.prog C.w) A t (TO C f H5 s5 fun _ L' H' => D H' ∧ loopC (turnC C A f g k) D (xs.drop (i + 1)) L' H' Q) nx s5 →
            (∀ s6, (∃ m, m < xs.length + 1 - i ∧ CmpI C f I H s0 xs.length (fun i L2 H2 h => An4 (D H2) (S i h) (H2 I = none) (loopC (turnC C A f g k) D (xs.drop i) L2 H2 Q)) m s6) → K (.again (.compLoop e d (.ref I) acc f.env)) s6) →
            wpAny (model C.prog C.w) A (t >>= fun _ => again (.compLoop e d (.ref I) acc f.env)) K (notedBy (model C.prog C.w) A f.env fun e s' => EndC C f I H s0 Q (.error e) s') s5 := by
          intro t K h1 h2
          refine wpAny_bind (wpAny_mono h1 (fun _ s6 ⟨L6, H6, R6, F6, k6, st6, q6⟩ => wpAny_pure (h2 s6 (fin s6 L6 H6 R6 F6 (k4.trans (k5.trans k6)) (st4.trans (st5.trans st6)) q6))) fun _ _ e => e.elim)
        have e3 : (innerTree e gens emit d acc f.env >>= fun _ => again (.compLoop e d (.ref I) acc f.env)) = (match gens[d + 1]? with
            | some g' => do
              let x ← eval g'.iter f.env
              standAt g'.iter.pos
              let x ← if g'.is_async != 0 then foldedIterable g'.iter x else foldedSetIterable g'.iter f.env x
              let _ ← runOwn (.compStart e (d + 1) (← holding [x] (if g'.is_async != 0 then asyncIter x else pyIter x)) acc f.env) f.env
              again (.compLoop e d (.ref I) acc f.env)
            | none => do
              emit
              again (.compLoop e d (.ref I) acc f.env)) := by
          unfold innerTree
          cases gens[d + 1]? with
          | none => rfl
          | some g' =>
            cases hz : (g'.is_async != 0) <;> simp only [hz, Bool.false_eq_true, if_true, if_false, bind_assoc, pure_bind]
        refine (show wpAny (model C.prog C.w) A (match gens[d + 1]? with
            | some g' => do
              let x ← eval g'.iter f.env
              standAt g'.iter.pos
              let x ← if g'.is_async != 0 then foldedIterable g'.iter x else foldedSetIterable g'.iter f.env x
              let _ ← runOwn (.compStart e (d + 1) (← holding [x] (if g'.is_async != 0 then asyncIter x else pyIter x)) acc f.env) f.env
              again (.compLoop e d (.ref I) acc f.env)
            | none => do
              emit
              again (.compLoop e d (.ref I) acc f.env)) _ _ s5 from ?_)
        rw [← e3]
        exact e2 (innerTree e gens emit d acc f.env) _ hin' fun s6 h6 => ⟨rfl, h6⟩
    · have : i = xs.length := by lia
      subst this
      refine wpAny_bind (sp.done H2 s _ _ S2 R2 d2 fun h2 tk2 hk2 => ?_)
      rw [List.drop_length] at lw2
      refine wpAny_pure ⟨L2, H2, rfl, R2.only hk2 HI2 b0 n4, F2.only hk2 n1 n2, ?_, ⟨st2.gens, st2.os⟩, lw2⟩
      intro a o hne e q hn
      obtain ⟨⟨o2, e2, d2, f2⟩, q2⟩ := k2 a o hne e q hn
      exact ⟨⟨o2, hk2 a o2 hne e2, d2, f2⟩, q2⟩
  refine codeAny_of_tree ?_
  rw [(hw _).1]
  have hden : (model C.prog C.w).den (.compStart e d (.ref I) acc f.env) = (compStart e d (.ref I) acc f.env).onRaise (fun x => do noteFrame x f.env; standAt theWindowsPlace) := by
    show (if (Code.compStart e d (.ref I) acc f.env).isFrame = true then _ else _) = _
    rw [(hfr _).1]; rfl
  rw [hden]
  refine wpAny_notedAt ?_
  unfold compStart
  rw [hcl, hg]
  have ha : (g.is_async != 0) = false := by rw [hp.1]; rfl
  simp only [Option.elim_some, ha, Bool.false_eq_true, if_false]
  refine wpAny_bind (wpAny_askSetting (wpAny_ite ?_))
  split
  · first
      | exact wpAny_bind (wpAny_pure (wpAny_pure ⟨(hq _).2, hloop⟩))
      | exact wpAny_pure ⟨(hq _).2, hloop⟩
  · refine wpAny_bind (wpAny_rule (wpAny_bind (wpAny_standAt (wpAny_bind (sp.self 0 s0 _ _ S0 ?_)))))
    exact wpAny_pure ⟨(hq _).2, hloop⟩

theorem comp_run {e : Expr} {gens : List Comprehension} {acc : Value} {emit : Sem Unit} {em : Loc → AH → (Loc → AH → Prop) → Prop}
    (ht : ∀ d it, compTurn e d it acc f.env = turnTree e gens emit d it acc f.env) (hcl : clausesOf e = gens)
    (hfr : ∀ d it, (Code.compStart e d it acc f.env).isFrame = false ∧ (Code.compLoop e d it acc f.env).isFrame = false)
    (hw : ∀ d it, A.under (Code.compStart e d it acc f.env) = A ∧ A.under (Code.compLoop e d it acc f.env) = A)
    (hq : ∀ d it, (Code.compStart e d it acc f.env).quiet = true ∧ (Code.compLoop e d it acc f.env).quiet = true)
    (hem : ∀ L H Q, em L H Q → TW C A nx f emit L H fun _ => Q) :
    ∀ (gs : List Comprehension) (d : Nat) (g : Comprehension), gens.drop d = g :: gs → (∀ g' ∈ g :: gs, plainGen f g') →
    ∀ (I : Addr) (xs : List Value) (D : AH → Prop) (S : Nat → Heap → Prop) (L : Loc) (H : AH) (Q : Loc → AH → Prop) (s0 : Shared),
      ItSpec C A I xs D S → S 0 s0.heap → Rel C H s0 → FrOk C f L H s0.heap → D H → H I = none → C.h₀.get? I = none →
      f.env.locals ≠ I → (∀ x c, isC f.env x → f.env.cells.lookup x = some c → c ≠ I) → I ∉ f.ow → I ∉ C.fr →
      loopC (turnC C A f g (CompG C A f em gs)) D xs L H Q →
      codeAny (model C.prog C.w) A (.compStart e d (.ref I) acc f.env) (EndC C f I H s0 Q) s0 := by
  intro gs
  induction gs with
  | nil =>
    intro d g hd hp I xs D S L H Q s0 sp S0 R0 F0 d0 HI b0 n1 n2 n3 n4 lw
    have hg : gens[d]? = some g := by
      have : (gens.drop d)[0]? = some g := by rw [hd]; rfl
      simpa using this
    have hg1 : gens[d + 1]? = none := by
      have : (gens.drop d)[1]? = none := by rw [hd]; rfl
      simpa using this
    refine comp_level (ht d) hcl (hfr d) (hw d) (hq d) hg (hp g List.mem_cons_self) (fun L H Q h => ?_) sp S0 R0 F0 d0 HI b0 n1 n2 n3 n4 lw
    unfold innerTree
    rw [hg1]
    exact hem L H Q h
  | cons g' gs ih =>
    intro d g hd hp I xs D S L H Q s0 sp S0 R0 F0 d0 HI b0 n1 n2 n3 n4 lw
    have hg : gens[d]? = some g := by
      have : (gens.drop d)[0]? = some g := by rw [hd]; rfl
      simpa using this
    have hg1 : gens[d + 1]? = some g' := by
      have : (gens.drop d)[1]? = some g' := by rw [hd]; rfl
      simpa using this
    have hd1 : gens.drop (d + 1) = g' :: gs := by
      have : (gens.drop d).drop 1 = g' :: gs := by rw [hd]; rfl
      simpa [List.drop_drop] using this
    refine comp_level (ht d) hcl (hfr d) (hw d) (hq d) hg (hp g List.mem_cons_self) (fun L H Q h => ?_) sp S0 R0 F0 d0 HI b0 n1 n2 n3 n4 lw
    have hpg := hp g' (List.mem_cons_of_mem _ List.mem_cons_self)
    have ha : (g'.is_async != 0) = false := by rw [hpg.1]; rfl
    unfold innerTree
    rw [hg1]
    simp only [ha, Bool.false_eq_true, if_false]
    intro s R F
    refine wpAny_bind (wpAny_mono (h s R F) (fun x s1 ⟨L1, H1, R1, F1, k1, st1, xs', D', dd, ip, lw'⟩ => wpAny_bind (wpAny_standAt ?_)) fun _ _ e => e)
    rw [hpg.2]
    refine wpAny_bind (wpAny_pure (wpAny_bind (wpAny_holding ?_)))
    refine ip x H1 s1 _ _ rfl R1 dd fun I' h' tk S' hI hk sp' S0' => ?_
    have n0 := F1.ne hI
    obtain ⟨HI', b0'⟩ := R1.dead hI
    have nfI : I' ∉ C.fr := by
      intro hm
      obtain ⟨⟨o, e, _⟩, _⟩ := R1.live I' hm
      rw [hI] at e; cases e
    refine wpAny_bind (wpAny_runOwn ?_)
    refine codeAny_mono (ih (d + 1) g' hd1 (fun g'' h'' => hp g'' (List.mem_cons_of_mem _ h'')) I' xs' D' S' L1 H1 _ _ sp' S0' (R1.only (fun b o _ e => hk b o e) HI' b0' nfI) (F1.only (fun b o _ e => hk b o e) n0.1 n0.2.1) dd HI' b0' n0.1 n0.2.1 n0.2.2 nfI lw') ?_
    rintro r s3 ⟨L3, H3, rfl, R3, F3, k3, st3, q3⟩
    refine wpAny_pure ⟨L3, H3, R3, F3, ?_, ⟨st3.gens.trans st1.gens, st3.os.trans st1.os⟩, q3⟩
    intro a o e q hn
    obtain ⟨⟨o1, e1, d1, f1⟩, q1⟩ := k1 a o e q hn
    obtain ⟨⟨o3, e3, d3, f3⟩, q3⟩ := k3 a o1 (by first | exact no_some (hI) e1 | exact (no_some (hI) e1).symm | exact no_some e1 (hI) | exact (no_some e1 (hI)).symm | exact two_ne (hI) e1 (by intro q; cases q; done) | exact (two_ne (hI) e1 (by intro q; cases q; done)).symm | (rintro rfl; rw [hI] at e1; cases e1)) (hk a o1 e1) q1 hn
    exact ⟨⟨o3, e3, d3.trans d1, fun nf => (f3 nf).trans (f1 nf)⟩, q3⟩
end

noncomputable def closOf (cells : List (Str × Addr)) : List (Str × NameKind) → List (Str × Addr) → List (Str × Addr)
  | [], acc => acc
  | (x, k) :: r, acc => if k == .free then closOf cells r ((x, (cells.lookup x).getD 0) :: acc) else closOf cells r acc
noncomputable def compFm (env : Env) (scope : Scope) (L : Addr) : Fm :=
  ⟨{ scope := relabel scope env, locals := L, globals := env.globals, cells := cellsFrom (L + 1) scope.names (closOf env.cells scope.names []), qual := env.qual, func := none, code := env.code, frame := env.frame, builtins := env.builtins },
   L :: scope.names.filterMap fun p => if scope.names.lookup p.1 = some .cell then (cellsFrom (L + 1) scope.names []).lookup p.1 else none⟩
noncomputable def compL (scope : Scope) (L : Loc) : Loc := fun x => match scope.names.lookup x with
  | some .local => none
  | some .cell => none
  | _ => L x
set_option genInjectivity false in
structure CompOk (env : Env) (scope : Scope) : Prop where
  kind : scope.kind = .function
  nodup : (scope.names.map (·.1)).Nodup
  free : ∀ p ∈ scope.names, p.2 = .free → isC env p.1

section
variable {α β : Type} {C : Cx} {A : Around} {E : Value → Shared → Prop} {f : Fm} {L : Loc} {H : AH}

theorem cellsFrom_append : ∀ (names : List (Str × NameKind)) (n : Nat) (acc : List (Str × Addr)), cellsFrom n names acc = cellsFrom n names [] ++ acc
  | [], n, acc => rfl
  | (x, k) :: r, n, acc => by
    unfold cellsFrom
    split
    · rw [cellsFrom_append r _ ((x, n) :: acc), cellsFrom_append r _ [(x, n)]]; simp
    · exact cellsFrom_append r n acc
theorem closOf_append (cells : List (Str × Addr)) : ∀ (names : List (Str × NameKind)) (acc : List (Str × Addr)), closOf cells names acc = closOf cells names [] ++ acc
  | [], acc => rfl
  | (x, k) :: r, acc => by
    unfold closOf
    split
    · rw [closOf_append cells r ((x, _) :: acc), closOf_append cells r [(x, _)]]; simp
    · exact closOf_append cells r acc
theorem lookup_none_of {α : Type} : ∀ {l : List (Str × α)} {x : Str}, x ∉ l.map (·.1) → l.lookup x = none
  | [], _, _ => rfl
  | (y, v) :: r, x, h => by
    simp only [List.map_cons, List.mem_cons, not_or] at h
    rw [List.lookup_cons, beq_eq_false_iff_ne.mpr h.1]
    exact lookup_none_of h.2
theorem cellsFrom_mem : ∀ {names : List (Str × NameKind)} {n : Nat} {x : Str} {c : Addr}, (x, c) ∈ cellsFrom n names [] → (x, NameKind.cell) ∈ names
  | (y, k) :: r, n, x, c, h => by
    unfold cellsFrom at h
    split at h
    · rename_i hk
      rw [cellsFrom_append] at h
      rcases List.mem_append.mp h with h | h
      · exact List.mem_cons_of_mem _ (cellsFrom_mem h)
      · simp only [List.mem_singleton, Prod.mk.injEq] at h
        rw [h.1, ← beq_iff_eq.mp hk]; exact List.mem_cons_self
    · exact List.mem_cons_of_mem _ (cellsFrom_mem h)
theorem lookup_of_mem_nd {α : Type} : ∀ {l : List (Str × α)} {x : Str} {v : α}, (l.map (·.1)).Nodup → (x, v) ∈ l → l.lookup x = some v
  | (y, u) :: r, x, v, hn, h => by
    simp only [List.map_cons, List.nodup_cons] at hn
    rw [List.lookup_cons]
    rcases List.mem_cons.mp h with e | h'
    · cases e; simp
    · have : x ≠ y := by rintro rfl; exact hn.1 (List.mem_map.mpr ⟨(x, v), h', rfl⟩)
      rw [beq_eq_false_iff_ne.mpr this]
      exact lookup_of_mem_nd hn.2 h'
theorem closOf_lookup {cells : List (Str × Addr)} : ∀ {names : List (Str × NameKind)} {x : Str} {c : Addr}, (names.map (·.1)).Nodup → names.lookup x = some .free → cells.lookup x = some c → (closOf cells names []).lookup x = some c
  | (y, k) :: r, x, c, hn, h, hc => by
    simp only [List.map_cons, List.nodup_cons] at hn
    rw [List.lookup_cons] at h
    unfold closOf
    cases e : x == y with
    | true =>
      rw [e] at h
      have hk : k = .free := by simpa using h
      have hx := beq_iff_eq.mp e; subst hx; subst hk
      simp only [beq_self_eq_true, if_true]
      rw [closOf_append, List.lookup_append]
      have : (closOf cells r []).lookup x = none := by
        refine lookup_none_of fun hm => hn.1 ?_
        clear h hc hn
        induction r with
        | nil => simp [closOf] at hm
        | cons z r ih =>
          obtain ⟨z, kz⟩ := z
          unfold closOf at hm
          split at hm
          · rw [closOf_append] at hm
            simp only [List.map_append, List.mem_append, List.map_cons, List.map_nil, List.mem_singleton] at hm
            rcases hm with hm | hm
            · exact List.mem_cons_of_mem _ (ih hm)
            · rw [hm]; exact List.mem_cons_self
          · exact List.mem_cons_of_mem _ (ih hm)
      rw [this]
      simp [hc]
    | false =>
      rw [e] at h
      have ih := closOf_lookup (cells := cells) hn.2 h hc
      split
      · rw [closOf_append, List.lookup_append, ih]; rfl
      · exact ih
theorem closureFor_eq {env : Env} {scope : Scope} (h : ∀ p ∈ scope.names, p.2 = .free → ∃ c, env.cells.lookup p.1 = some c) : closureFor scope env = pure (closOf env.cells scope.names []) := by
  unfold closureFor
  have key : ∀ (names : List (Str × NameKind)) (acc : List (Str × Addr)), (∀ p ∈ names, p.2 = .free → ∃ c, env.cells.lookup p.1 = some c) →
      (forIn names acc (fun (p : Str × NameKind) cs => if p.2 == .free then do let c ← cellOf env p.1; pure (ForInStep.yield ((p.1, c) :: cs)) else pure (ForInStep.yield cs)) : Sem (List (Str × Addr))) = pure (closOf env.cells names acc) := by
    intro names
    induction names with
    | nil => intro acc _; rfl
    | cons p r ih =>
      intro acc hp
      obtain ⟨x, k⟩ := p
      rw [List.forIn_cons]
      unfold closOf
      cases hk : k == .free with
      | true =>
        obtain ⟨c, hc⟩ := hp (x, k) List.mem_cons_self (beq_iff_eq.mp hk)
        simp only [if_true]
        have : cellOf env x = pure c := by unfold cellOf; rw [hc]
        rw [this, hc]
        simp only [pure_bind, Option.getD_some]
        exact ih _ fun p hp' => hp p (List.mem_cons_of_mem _ hp')
      | false =>
        simp only [Bool.false_eq_true, if_false, pure_bind]
        exact ih _ fun p hp' => hp p (List.mem_cons_of_mem _ hp')
  have := key scope.names [] h
  simp only [bind_pure]
  exact this
theorem lookup_map_fst (g : Str × NameKind → Str × NameKind) (hg : ∀ p, (g p).1 = p.1) : ∀ (l : List (Str × NameKind)) (x : Str), (l.map g).lookup x = (l.lookup x).map fun k => (g (x, k)).2
  | [], x => rfl
  | (n, k) :: r, x => by
    rw [List.map_cons]
    have e0 : g (n, k) = (n, (g (n, k)).2) := Prod.ext (hg (n, k)) rfl
    rw [e0, List.lookup_cons, List.lookup_cons]
    cases e : x == n with
    | true => have hx := beq_iff_eq.mp e; subst hx; rfl
    | false => exact lookup_map_fst g hg r x
theorem relabel_kind (env : Env) (scope : Scope) (L : Addr) (x : Str) : (compFm env scope L).env.kindOf x =
    (scope.names.lookup x).map fun k => if (k == NameKind.free && env.scope.kind == .function && env.kindOf x == some .cell) then NameKind.cell else k := by
  show (relabel scope env).names.lookup x = _
  unfold relabel
  rw [lookup_map_fst _ (by rintro ⟨n, k⟩; dsimp only; split <;> rfl)]
  congr 1
  funext k
  dsimp only
  split <;> rfl
theorem comp_isC (env : Env) (scope : Scope) (L : Addr) (x : Str) : isC (compFm env scope L).env x ↔ scope.names.lookup x = some .cell ∨ scope.names.lookup x = some .free := by
  unfold isC
  rw [relabel_kind]
  cases scope.names.lookup x with
  | none => simp
  | some k =>
    simp only [Option.map_some, Option.some.injEq]
    cases k <;> (split <;> simp_all)

theorem newEnv_comp {M : Model} {s : Shared} {env : Env} {scope : Scope} {cl : List (Str × Addr)} {Q : Env → Shared → Prop}
    (h : ∀ cenv, cenv = newEnv scope s.heap.objs.size env.globals (cellsFrom (s.heap.objs.size + 1) scope.names cl) env.qual none .none (some env) builtinsNs →
      Q cenv { s with heap := pushCells (s.heap.push { cls := .type "dict", data := .dict #[] }) scope.names }) :
    wpAny M A (newFunctionEnv scope env.globals cl [] env.qual none .none (some env)) Q E s := by
  unfold newFunctionEnv
  refine wpAny_bind (wpAny_alloc ?_)
  refine wpAny_bind (wpAny_layCells _ (fun name kind cells => ?_) _ _ _ _ ?_)
  · cases hk : kind == .cell <;> simp [hk]
  · rw [show ({ s with heap := s.heap.push { cls := .type (if (some env).isSome = true then "dict" else "frame"), data := .dict #[] } } : Shared).heap.objs.size = s.heap.objs.size + 1 from Heap.size_push ..]
    exact wpAny_bind (wpAny_pure (wpAny_pure (h _ rfl)))

theorem comp_frame {scope : Scope} {s : Shared} (O : CompOk f.env scope) (R : Rel C H s) (F : FrOk C f L H s.heap) :
    FrOk C (compFm f.env scope s.heap.objs.size) (compL scope L) H (pushCells (s.heap.push { cls := .type "dict", data := .dict #[] }) scope.names) := by
  have hkeep : ∀ b o, s.heap.get? b = some o → (pushCells (s.heap.push { cls := .type "dict", data := .dict #[] }) scope.names).get? b = some o :=
    fun b o e => pushCells_keeps _ _ _ _ (Heap.get?_push_of_some _ e)
  have hsz : (s.heap.push { cls := .type "dict", data := .dict #[] }).objs.size = s.heap.objs.size + 1 := Heap.size_push ..
  have ok : CellsOk (pushCells (s.heap.push { cls := .type "dict", data := .dict #[] }) scope.names) (s.heap.objs.size + 1) (cellsFrom (s.heap.objs.size + 1) scope.names []) := by
    have := cellsFrom_ok scope.names (s.heap.push { cls := .type "dict", data := .dict #[] }) (s.heap.objs.size + 1) [] ⟨fun _ _ h => (by cases h), .nil⟩ (by rw [hsz]; exact Nat.le_refl _)
    rw [hsz] at this; exact this
  have hdead : ∀ a, s.heap.objs.size ≤ a → s.heap.get? a = none := by
    intro a ha
    cases e : s.heap.get? a with
    | none => rfl
    | some o => exact absurd (Heap.lt_size e) (Nat.not_lt.mpr ha)
  have own : ∀ x, scope.names.lookup x = some .cell → ∃ c, (compFm f.env scope s.heap.objs.size).env.cells.lookup x = some c ∧ (cellsFrom (s.heap.objs.size + 1) scope.names []).lookup x = some c ∧ (x, c) ∈ cellsFrom (s.heap.objs.size + 1) scope.names [] := by
    intro x hx
    obtain ⟨c, hc⟩ := Option.isSome_iff_exists.mp (cellsFrom_some scope.names (s.heap.objs.size + 1) [] x hx)
    refine ⟨c, ?_, hc, mem_of_lookup hc⟩
    show (cellsFrom _ _ _).lookup x = _
    rw [cellsFrom_append, List.lookup_append, hc]; rfl
  have fre : ∀ x, scope.names.lookup x = some .free → ∃ c v, (compFm f.env scope s.heap.objs.size).env.cells.lookup x = some c ∧ f.env.cells.lookup x = some c ∧ isC f.env x ∧ s.heap.IsCell c v ∧ v.map er = L x := by
    intro x hx
    have hc := O.free (x, .free) (mem_of_lookup hx) rfl
    obtain ⟨c, v, e1, e2, e3⟩ := F.cell x hc
    refine ⟨c, v, ?_, e1, hc, e2, e3⟩
    show (cellsFrom _ _ _).lookup x = _
    rw [cellsFrom_append, List.lookup_append]
    have : (cellsFrom (s.heap.objs.size + 1) scope.names []).lookup x = none := by
      refine lookup_none_of fun hm => ?_
      obtain ⟨⟨y, c'⟩, hm', rfl⟩ := List.mem_map.mp hm
      have := lookup_of_mem_nd O.nodup (cellsFrom_mem hm')
      rw [hx] at this; cases this
    rw [this, closOf_lookup O.nodup hx e1]; rfl
  refine ⟨O.kind, F.glob, ⟨fun _ => none, ?_, fun x hx => ?_⟩, fun x hx => ?_, fun x y c hx hy h1 h2 => ?_, fun x c hx hc => ?_, ⟨?_, fun x c hx hc => ?_⟩, ⟨?_, fun x c hx hc => ?_⟩, fun a ha => ?_⟩
  · exact (Heap.Ns.new s.heap (.type "dict")).keeps fun b o e => pushCells_keeps _ _ _ _ e
  · rw [relabel_kind] at hx
    have : scope.names.lookup x = some .local := by
      cases h : scope.names.lookup x with
      | none => rw [h] at hx; cases hx
      | some k =>
        rw [h] at hx
        simp only [Option.map_some, Option.some.injEq] at hx
        split at hx
        · cases hx
        · rw [hx]
    simp [compL, this]
  · rcases (comp_isC _ _ _ _).mp hx with h | h
    · obtain ⟨c, e1, e2, e3⟩ := own x h
      exact ⟨c, none, e1, (ok.empty x c e3).1, by simp [compL, h]⟩
    · obtain ⟨c, v, e1, _, _, e2, e3⟩ := fre x h
      exact ⟨c, v, e1, e2.keeps hkeep, by simp [compL, h, e3]⟩
  · rcases (comp_isC _ _ _ _).mp hx with h | h <;> rcases (comp_isC _ _ _ _).mp hy with h' | h'
    · obtain ⟨c1, e1, e2, e3⟩ := own x h
      obtain ⟨c2, e1', e2', e3'⟩ := own y h'
      rw [h1] at e1; cases e1; rw [h2] at e1'; cases e1'
      exact name_of_addr ok.apart e3 e3'
    · obtain ⟨c1, e1, e2, e3⟩ := own x h
      obtain ⟨c2, v, e1', _, _, ⟨o, e4, _⟩, _⟩ := fre y h'
      rw [h1] at e1; cases e1; rw [h2] at e1'; cases e1'
      have := (ok.empty x _ e3).2
      rw [hdead _ (by lia)] at e4; cases e4
    · obtain ⟨c1, e1, e2, e3⟩ := own y h'
      obtain ⟨c2, v, e1', _, _, ⟨o, e4, _⟩, _⟩ := fre x h
      rw [h2] at e1; cases e1; rw [h1] at e1'; cases e1'
      have := (ok.empty y _ e3).2
      rw [hdead _ (by lia)] at e4; cases e4
    · obtain ⟨c1, v1, e1, p1, i1, _⟩ := fre x h
      obtain ⟨c2, v2, e2, p2, i2, _⟩ := fre y h'
      rw [h1] at e1; cases e1; rw [h2] at e2; cases e2
      exact F.inj x y _ i1 i2 p1 p2
  · rcases (comp_isC _ _ _ _).mp hx with h | h
    · obtain ⟨c1, e1, e2, e3⟩ := own x h
      rw [hc] at e1; cases e1
      have := (ok.empty x _ e3).2
      exact Nat.ne_of_gt this
    · obtain ⟨c1, v1, e1, p1, i1, ⟨o, e4, _⟩, _⟩ := fre x h
      rw [hc] at e1; cases e1
      show c ≠ s.heap.objs.size
      rintro rfl
      rw [hdead _ (Nat.le_refl _)] at e4; cases e4
  · exact (R.dead (hdead _ (Nat.le_refl _))).2
  · rcases (comp_isC _ _ _ _).mp hx with h | h
    · obtain ⟨c1, e1, e2, e3⟩ := own x h
      rw [hc] at e1; cases e1
      have := (ok.empty x _ e3).2
      exact (R.dead (hdead _ (by lia))).2
    · obtain ⟨c1, v1, e1, p1, i1, _⟩ := fre x h
      rw [hc] at e1; cases e1
      exact F.low.2 x _ i1 p1
  · exact (R.dead (hdead _ (Nat.le_refl _))).1
  · rcases (comp_isC _ _ _ _).mp hx with h | h
    · obtain ⟨c1, e1, e2, e3⟩ := own x h
      rw [hc] at e1; cases e1
      have := (ok.empty x _ e3).2
      exact (R.dead (hdead _ (by lia))).1
    · obtain ⟨c1, v1, e1, p1, i1, _⟩ := fre x h
      rw [hc] at e1; cases e1
      exact F.off.2 x _ i1 p1
  · simp only [compFm, List.mem_cons, List.mem_filterMap] at ha
    rcases ha with rfl | ⟨⟨x, k⟩, hm, hx⟩
    · exact .inl rfl
    · right
      split at hx
      · rename_i hl
        obtain ⟨c1, e1, e2, e3⟩ := own x hl
        rw [e2] at hx; cases hx
        exact ⟨x, (comp_isC _ _ _ _).mpr (.inl hl), e1⟩
      · cases hx
theorem compFm_fresh {scope : Scope} {s : Shared} {a : Addr} {o : Obj} (e : s.heap.get? a = some o) : a ∉ (compFm f.env scope s.heap.objs.size).ow := by
  have hlt := Heap.lt_size e
  intro ha
  simp only [compFm, List.mem_cons, List.mem_filterMap] at ha
  rcases ha with rfl | ⟨⟨x, k⟩, hm, hx⟩
  · exact absurd hlt (Nat.lt_irrefl _)
  · split at hx
    · have hsz : (s.heap.push { cls := .type "dict", data := .dict #[] }).objs.size = s.heap.objs.size + 1 := Heap.size_push ..
      have ok := cellsFrom_ok scope.names (s.heap.push { cls := .type "dict", data := .dict #[] }) (s.heap.objs.size + 1) [] ⟨fun _ _ h => (by cases h), .nil⟩ (by rw [hsz]; exact Nat.le_refl _)
      rw [hsz] at ok
      exact absurd hlt (Nat.not_lt.mpr (Nat.le_of_lt (ok.empty x a (mem_of_lookup hx)).2))
    · cases hx
end

noncomputable def emList (C : Cx) (A : Around) (f : Fm) (elt : Expr) (a : Addr) (L : Loc) (H : AH) (Q : Loc → AH → Prop) : Prop :=
  EW C A nx f elt L H fun v L1 H1 => ∃ ys, H1 a = some (.list ys) ∧ ys.length ≤ sizeLine ∧ Q L1 (upd H1 a (.list (ys ++ [v])))
section
variable {α β : Type} {C : Cx} {A : Around} {E : Value → Shared → Prop} {f : Fm} {L : Loc} {H : AH}

theorem FrOk.keepsAt {H' : AH} {h h' : Heap} (F : FrOk C f L H h) (k : ∀ a o, h.get? a = some o → H a = none → (a = f.env.locals ∨ ∃ x, isC f.env x ∧ f.env.cells.lookup x = some a) → (∃ o', h'.get? a = some o' ∧ o'.data = o.data) ∧ H' a = none) : FrOk C f L H' h' := by
  obtain ⟨kind, glob, ⟨m, n, nl⟩, cell, inj, apart, low, off, own⟩ := F
  refine ⟨kind, glob, ⟨m, (by
    obtain ⟨o, es, ep, e, hd, r⟩ := n
    obtain ⟨⟨o', e', d'⟩, _⟩ := k _ o e off.1 (.inl rfl)
    exact ⟨o', es, ep, e', d'.trans hd, r⟩), nl⟩, fun x hx => ?_, inj, apart, low, ⟨?_, fun x c hx hc => ?_⟩, own⟩
  · obtain ⟨c, v, e1, ⟨o, e2, e3⟩, e4⟩ := cell x hx
    obtain ⟨⟨o', e', d'⟩, _⟩ := k _ _ e2 (off.2 x c hx e1) (.inr ⟨x, hx, e1⟩)
    exact ⟨c, v, e1, ⟨o', e', d'.trans e3⟩, e4⟩
  · obtain ⟨o, es, ep, e, _⟩ := n
    exact (k _ o e off.1 (.inl rfl)).2
  · obtain ⟨c', v, e1, ⟨o, e2, e3⟩, e4⟩ := cell x hx
    rw [e1] at hc; cases hc
    exact (k _ o e2 (off.2 x _ hx e1) (.inr ⟨x, hx, e1⟩)).2

theorem PW.append {a : Addr} {ys : List Value} {x : Value} {Q : Value → AH → Prop} (ha : H a = some (.list ys)) (hsz : ys.length ≤ sizeLine) (h : Q .none (upd H a (.list (ys ++ [er x])))) :
    PW C A E (call (.builtin "list.append") [.ref a, x]) H Q := by
  intro s R
  obtain ⟨vs, n, e, q⟩ := R.rep a _ ha
  have hs : vs.size ≤ sizeLine := by rw [← q] at hsz; simpa using hsz
  refine append_at (hsz := hs) e fun h' hs' ho' => ?_
  have hr : Rep C h' a (.list (ys ++ [er x])) := ⟨_, _, ho', by rw [← q]; simp⟩
  obtain ⟨R', k⟩ := R.set (tk := s.toks) ha (fun b o hb e => (hs'.2 b hb).trans e) hr rfl rfl
  exact ⟨_, R', k, ⟨rfl, rfl⟩, h⟩

theorem emList_sound {elt : Expr} {a : Addr} {L : Loc} {H : AH} {Q : Loc → AH → Prop} (h : emList C A f elt a L H Q) :
    TW C A nx f (do let _ ← call (.builtin "list.append") [.ref a, ← eval elt f.env]) L H fun _ => Q := by
  refine TW.bind (TW.mono h fun v L1 H1 ⟨ys, h1, h2, q⟩ => TW.bind (TW.of_PW (PW.append h1 h2 (TW.pure q))))

theorem comp_gen {e : Expr} {newAcc : Sem Value} {o0 : Obj} {ao : AO} {emit : Value → Fm → Sem Unit} {em : Fm → Addr → Loc → AH → (Loc → AH → Prop) → Prop} {g : Comprehension} {gs : List Comprehension} {scope : Scope} {pos : Pos} {use : Option (Value → Sem Unit)} {K : Value → Shared → Prop} {Q : Addr → Loc → AH → Prop}
    (hcl : clausesOf e = g :: gs) (ht : ∀ (f' : Fm) d it acc, compTurn e d it acc f'.env = turnTree e (g :: gs) (emit acc f') d it acc f'.env)
    (hfr : ∀ env d it acc, (Code.compStart e d it acc env).isFrame = false ∧ (Code.compLoop e d it acc env).isFrame = false)
    (hw : ∀ env d it acc, A.under (Code.compStart e d it acc env) = A ∧ A.under (Code.compLoop e d it acc env) = A)
    (hq : ∀ env d it acc, (Code.compStart e d it acc env).quiet = true ∧ (Code.compLoop e d it acc env).quiet = true)
    (hem : ∀ f' a L H Q, em f' a L H Q → TW C A nx f' (emit (.ref a) f') L H fun _ => Q)
    (hnew : ∀ (s : Shared) (K : Value → Shared → Prop), K (.ref s.heap.objs.size) { s with heap := s.heap.push o0 } → wpAny (model C.prog C.w) A newAcc K E s)
    (hrep : ∀ h : Heap, Rep C (h.push o0) h.objs.size ao) (hsim : ao.simple = true)
    (O : CompOk f.env scope) (hp : ∀ K', ∀ g' ∈ g :: gs, plainGen (compFm f.env scope K') g') (hs : ∀ x, foldedSetIterable g.iter f.env x = pure x)
    (h : EW C A E f g.iter L H fun x L1 H1 => ∃ xs D, D H1 ∧ IterP C A x xs D ∧ ∀ a, H1 a = none → D (upd H1 a ao) ∧
      ∀ K', loopC (turnC C A (compFm f.env scope K') g (CompG C A (compFm f.env scope K') (em (compFm f.env scope K') a) gs)) D xs (compL scope L1) (upd H1 a ao) fun _ H2 => Q a L1 H2)
    {s : Shared} (R : Rel C H s) (F : FrOk C f L H s.heap)
    (hK : ∀ a c m s' L1 H2, Rel C H2 s' → FrOk C f L1 H2 s'.heap → Kept C.fr f.ow H H2 s.heap s'.heap → Still s s' → Q a L1 H2 → s'.heap.Ns c m → H2 c = none → C.h₀.get? c = none → f.env.locals ≠ c → (∀ x c', isC f.env x → f.env.cells.lookup x = some c' → c' ≠ c) → (∀ a o, s.heap.get? a = some o → H a = none → a ∉ f.ow → a ≠ c) → c ∉ f.ow → c ∉ C.fr →
      compPost (model C.prog C.w) A E use K (.ref a) c (.ok .next) s') :
    wpAny (model C.prog C.w) A (comprehension e scope f.env pos newAcc false (eval g.iter f.env) use) K E s := by
  have hclos : closureFor scope f.env = pure (closOf f.env.cells scope.names []) := closureFor_eq fun q hq hf => by
    obtain ⟨c, v, e, _⟩ := F.cell q.1 (O.free q hq hf); exact ⟨c, e⟩
  refine wpAny_comprehension_free (g := g) (gs := gs) hcl hs hclos O.kind (fun x hx hl => lookup_of_mem_nd O.nodup (by rw [← hl]; exact hx)) ?_
  refine wpAny_mono (h s R F) (fun x s1 ⟨L1, H1, R1, F1, k1, st1, xs, D, d1, ip, hh⟩ => ?_) fun _ _ e => e
  refine ip x H1 s1 _ _ rfl R1 d1 fun I h2 tk2 S hI hk sp S0 => ?_
  have n0 := F1.ne hI
  obtain ⟨HI, b0⟩ := R1.dead hI
  have nfI : I ∉ C.fr := by
    intro hm
    obtain ⟨⟨o, e, _⟩, _⟩ := R1.live I hm
    rw [hI] at e; cases e
  have R2 : Rel C H1 { s1 with heap := h2, toks := tk2 } := R1.only (fun b o _ e => hk b o e) HI b0 nfI
  have F2 : FrOk C f L1 H1 h2 := F1.only (fun b o _ e => hk b o e) n0.1 n0.2.1
  refine hnew _ _ ?_
  have hd3 := dead h2
  have hr := hrep h2
  obtain ⟨R3, k3⟩ := R2.alloc (tk := tk2) hd3 (fun b x e => Heap.get?_push_of_some _ e) hr hsim
  have F3 := F2.keeps k3
  have Ha := (R2.dead hd3).1
  obtain ⟨dA, lw⟩ := hh h2.objs.size Ha
  obtain ⟨oI, eI⟩ := sp.alive _ _ S0
  have hIa : I ≠ h2.objs.size := by first | exact no_some (hd3) eI | exact (no_some (hd3) eI).symm | exact no_some eI (hd3) | exact (no_some eI (hd3)).symm | exact two_ne (hd3) eI (by intro q; cases q; done) | exact (two_ne (hd3) eI (by intro q; cases q; done)).symm | (rintro rfl; rw [hd3] at eI; cases eI)
  refine newEnv_comp fun cenv hc => ?_
  let s3 : Shared := { s1 with heap := h2.push o0, toks := tk2 }
  have hce : ({ cenv with scope := relabel scope f.env } : Env) = (compFm f.env scope s3.heap.objs.size).env := by rw [hc]; rfl
  rw [hce]
  have hkp : ∀ b o, s3.heap.get? b = some o → (pushCells (s3.heap.push { cls := .type "dict", data := .dict #[] }) scope.names).get? b = some o :=
    fun b o e => pushCells_keeps _ _ _ _ (Heap.get?_push_of_some _ e)
  have eI3 : s3.heap.get? I = some oI := Heap.get?_push_of_some _ eI
  have F4 : FrOk C (compFm f.env scope s3.heap.objs.size) (compL scope L1) (upd H1 h2.objs.size ao) (pushCells (s3.heap.push { cls := .type "dict", data := .dict #[] }) scope.names) := comp_frame (s := s3) O R3 F3
  have hdead3 : ∀ a, s3.heap.objs.size ≤ a → s3.heap.get? a = none := by
    intro a ha
    cases e : s3.heap.get? a with
    | none => rfl
    | some o => exact absurd (Heap.lt_size e) (Nat.not_lt.mpr ha)
  have R4 : Rel C (upd H1 h2.objs.size ao) { s3 with heap := pushCells (s3.heap.push { cls := .type "dict", data := .dict #[] }) scope.names } :=
    ⟨fun b o e => hkp b o (R3.keep b o e), fun a o e => (R3.rep a o e).at fun b _ x hx => hkp b x hx, R3.low, R3.hid, fun l hl => ⟨let ⟨x, e, nd⟩ := (R3.live l hl).1; ⟨x, hkp l x e, nd⟩, (R3.live l hl).2⟩⟩
  have HI4 : upd H1 h2.objs.size ao I = none := by rw [upd_ne _ _ hIa]; exact HI
  have nI : I ∉ (compFm f.env scope s3.heap.objs.size).ow := compFm_fresh eI3
  have S4 : S 0 (pushCells (s3.heap.push { cls := .type "dict", data := .dict #[] }) scope.names) := sp.frame _ _ _ S0 fun o e => hkp I o (Heap.get?_push_of_some _ e)
  have hLI : (compFm f.env scope s3.heap.objs.size).env.locals ≠ I := by
    intro e
    have : s3.heap.objs.size = I := e
    rw [← this, hdead3 _ (Nat.le_refl _)] at eI3; cases eI3
  have hCI : ∀ x c, isC (compFm f.env scope s3.heap.objs.size).env x → (compFm f.env scope s3.heap.objs.size).env.cells.lookup x = some c → c ≠ I := by
    rintro x c hx hc' rfl
    obtain ⟨c2, v, e1, ⟨o, e2, e3⟩, _⟩ := F4.cell x hx
    rw [hc'] at e1; cases e1
    have := hkp _ _ eI3
    rw [e2] at this; cases this
    have hsp := sp.go
    rcases (comp_isC _ _ _ _).mp hx with h' | h'
    · exact nI (by
        rcases Option.isSome_iff_exists.mp (cellsFrom_some scope.names (s3.heap.objs.size + 1) [] x h') with ⟨c3, hc3⟩
        have hz : (compFm f.env scope s3.heap.objs.size).env.cells.lookup x = some c3 := by
          show (cellsFrom _ _ _).lookup x = _
          rw [cellsFrom_append, List.lookup_append, hc3]; rfl
        rw [hc'] at hz; cases hz
        simp only [compFm, List.mem_cons, List.mem_filterMap]
        exact .inr ⟨(x, .cell), mem_of_lookup h', by simp only [h', if_true]; exact hc3⟩)
    · have hcf := O.free (x, .free) (mem_of_lookup h') rfl
      obtain ⟨c4, v4, q1, _, _⟩ := F1.cell x hcf
      have hz : (compFm f.env scope s3.heap.objs.size).env.cells.lookup x = some c4 := by
        show (cellsFrom _ _ _).lookup x = _
        rw [cellsFrom_append, List.lookup_append]
        have : (cellsFrom (s3.heap.objs.size + 1) scope.names []).lookup x = none := by
          refine lookup_none_of fun hm => ?_
          obtain ⟨⟨y, c'⟩, hm', rfl⟩ := List.mem_map.mp hm
          have := lookup_of_mem_nd O.nodup (cellsFrom_mem hm')
          rw [h'] at this; cases this
        rw [this, closOf_lookup O.nodup h' q1]; rfl
      rw [hc'] at hz; cases hz
      exact n0.2.1 x _ hcf q1 rfl
  refine codeAny_mono (comp_run (f := compFm f.env scope s3.heap.objs.size) (A := A) (gens := g :: gs) (emit := emit (.ref h2.objs.size) (compFm f.env scope s3.heap.objs.size)) (em := em (compFm f.env scope s3.heap.objs.size) h2.objs.size)
    (fun d it => ht _ d it _) hcl (fun d it => hfr _ d it _) (fun d it => hw _ d it _) (fun d it => hq _ d it _) (fun L H Q h => hem _ _ L H Q h)
    gs 0 g rfl (hp _) I xs D S (compL scope L1) (upd H1 h2.objs.size ao) (fun _ H2 => Q h2.objs.size L1 H2) _ sp S4 R4 F4 dA HI4 b0 hLI hCI nI nfI (lw _)) ?_
  rintro r s5 ⟨L5, H5, rfl, R5, F5, k5, st5, q5⟩
  have kk : ∀ a o, a ≠ I → s3.heap.get? a = some o → upd H1 h2.objs.size ao a = none → (∃ o', s5.heap.get? a = some o' ∧ o'.data = o.data ∧ (a ∉ C.fr → o' = o)) ∧ H5 a = none :=
    fun a o hne e q => k5 a o hne (hkp a o e) q (compFm_fresh e)
  have F6 : FrOk C f L1 H5 s5.heap := F3.keepsAt fun a o e q ha => (fun z => ⟨let ⟨o', e', d', _⟩ := z.1; ⟨o', e', d'⟩, z.2⟩) <| kk a o (by
    rintro rfl
    rcases ha with e | ⟨x, hx, hc⟩
    · exact n0.1 e.symm
    · exact n0.2.1 x _ hx hc rfl) e q
  have K6 : Kept C.fr f.ow H H5 s.heap s5.heap := by
    intro a o e q hn
    obtain ⟨⟨o1, e1, d1, f1⟩, q1⟩ := k1 a o e q hn
    have hne : a ≠ I := by first | exact no_some (hI) e1 | exact (no_some (hI) e1).symm | exact no_some e1 (hI) | exact (no_some e1 (hI)).symm | exact two_ne (hI) e1 (by intro q; cases q; done) | exact (two_ne (hI) e1 (by intro q; cases q; done)).symm | (rintro rfl; rw [hI] at e1; cases e1)
    have e2 := hk a o1 e1
    have hne2 : a ≠ h2.objs.size := by first | exact no_some (hd3) e2 | exact (no_some (hd3) e2).symm | exact no_some e2 (hd3) | exact (no_some e2 (hd3)).symm | exact two_ne (hd3) e2 (by intro q; cases q; done) | exact (two_ne (hd3) e2 (by intro q; cases q; done)).symm | (rintro rfl; rw [hd3] at e2; cases e2)
    obtain ⟨⟨o3, e3, d3, f3⟩, q3⟩ := kk a o1 hne (Heap.get?_push_of_some _ e2) (by rw [upd_ne _ _ hne2]; exact q1)
    exact ⟨⟨o3, e3, d3.trans d1, fun nf => (f3 nf).trans (f1 nf)⟩, q3⟩
  obtain ⟨m, hm, _⟩ := F5.ns
  have hcd : s3.heap.get? (compFm f.env scope s3.heap.objs.size).env.locals = none := hdead3 _ (Nat.le_refl _)
  have hcd1 : ∀ b o, s1.heap.get? b = some o → b ≠ (compFm f.env scope s3.heap.objs.size).env.locals := by
    rintro b o e rfl
    rw [Heap.get?_push_of_some _ (hk _ _ e)] at hcd; cases hcd
  have n6 := F3.ne hcd
  have hcl : cenv.locals = (compFm f.env scope s3.heap.objs.size).env.locals := by rw [hc]; rfl
  rw [hcl]
  refine hK _ _ m s5 L1 H5 R5 F6 K6 ⟨st5.gens.trans st1.gens, st5.os.trans st1.os⟩ q5 hm F5.off.1 F5.low.1 n6.1 n6.2.1 ?_ n6.2.2 (by
    intro hm
    obtain ⟨⟨o, e, _⟩, _⟩ := R3.live _ hm
    rw [hcd] at e; cases e)
  intro a o e q hn
  obtain ⟨⟨o1, e1, _⟩, _⟩ := k1 a o e q hn
  exact hcd1 a o1 e1

theorem comp_list {elt : Expr} {g : Comprehension} {gs : List Comprehension} {scope : Scope} {p pos : Pos} {use : Option (Value → Sem Unit)} {K : Value → Shared → Prop} {Q : Addr → Loc → AH → Prop}
    (O : CompOk f.env scope) (hp : ∀ K', ∀ g' ∈ g :: gs, plainGen (compFm f.env scope K') g') (hs : ∀ x, foldedSetIterable g.iter f.env x = pure x)
    (h : EW C A E f g.iter L H fun x L1 H1 => ∃ xs D, D H1 ∧ IterP C A x xs D ∧ ∀ a, H1 a = none → D (upd H1 a (.list [])) ∧
      ∀ K', loopC (turnC C A (compFm f.env scope K') g (CompG C A (compFm f.env scope K') (emList C A (compFm f.env scope K') elt a) gs)) D xs (compL scope L1) (upd H1 a (.list [])) fun _ H2 => Q a L1 H2)
    {s : Shared} (R : Rel C H s) (F : FrOk C f L H s.heap)
    (hK : ∀ a c m s' L1 H2, Rel C H2 s' → FrOk C f L1 H2 s'.heap → Kept C.fr f.ow H H2 s.heap s'.heap → Still s s' → Q a L1 H2 → s'.heap.Ns c m → H2 c = none → C.h₀.get? c = none → f.env.locals ≠ c → (∀ x c', isC f.env x → f.env.cells.lookup x = some c' → c' ≠ c) → (∀ a o, s.heap.get? a = some o → H a = none → a ∉ f.ow → a ≠ c) → c ∉ f.ow → c ∉ C.fr →
      compPost (model C.prog C.w) A E use K (.ref a) c (.ok .next) s') :
    wpAny (model C.prog C.w) A (comprehension (.ListComp elt (g :: gs) scope p) scope f.env pos (PySem.newList []) false (eval g.iter f.env) use) K E s :=
  comp_gen (e := .ListComp elt (g :: gs) scope p) (o0 := { cls := .type "list", data := .seq ([] : List Value).toArray }) (ao := .list []) (emit := fun acc f' => do let _ ← call (.builtin "list.append") [acc, ← eval elt f'.env]) (em := fun f' a => emList C A f' elt a)
    rfl (fun f' d it acc => turn_list ..) (fun env d it acc => ⟨rfl, rfl⟩) (fun env d it acc => ⟨Around.under_of_weight rfl, Around.under_of_weight rfl⟩) (fun env d it acc => ⟨rfl, rfl⟩) (fun f' a L H Q h => emList_sound h)
    (fun s K h => wpAny_newList h (by simp)) (fun h => ⟨#[], 0, Heap.get?_push_size _ rfl, rfl⟩) rfl O hp hs h R F hK

theorem ns_but {h h' : Heap} {c : Addr} {s s' : Shared} {H2 : AH} {L1 : Loc} (R : Rel C H2 s') (F : FrOk C f L1 H2 s'.heap) (k : Kept C.fr f.ow H H2 s.heap s'.heap) (hc : H2 c = none) (h0 : C.h₀.get? c = none) (n1 : f.env.locals ≠ c)
    (n2 : ∀ x c', isC f.env x → f.env.cells.lookup x = some c' → c' ≠ c) (n3 : ∀ a o, s.heap.get? a = some o → H a = none → a ∉ f.ow → a ≠ c) (hs : Heap.SameBut c s'.heap h') (nf : c ∉ C.fr) :
    Rel C H2 { s' with heap := h' } ∧ FrOk C f L1 H2 h' ∧ Kept C.fr f.ow H H2 s.heap h' := by
  refine ⟨R.only (tk := s'.toks) (fun b o hb e => (hs.2 b hb).trans e) hc h0 nf, F.only (fun b o hb e => (hs.2 b hb).trans e) n1 n2, fun a o e q hn => ?_⟩
  obtain ⟨⟨o1, e1, d1, f1⟩, q1⟩ := k a o e q hn
  exact ⟨⟨o1, (hs.2 a (n3 a o e q hn)).trans e1, d1, f1⟩, q1⟩

theorem EW.listComp {elt tgt it : Expr} {ifs : List Expr} {gs : List Comprehension} {scope : Scope} {p : Pos} {Q : Value → Loc → AH → Prop}
    (O : CompOk f.env scope) (hp : ∀ K', ∀ g' ∈ ⟨tgt, it, ifs, 0⟩ :: gs, plainGen (compFm f.env scope K') g') (hs : ∀ x, foldedSetIterable it f.env x = pure x)
    (h : EW C A E f it L H fun x L1 H1 => ∃ xs D, D H1 ∧ IterP C A x xs D ∧ ∀ a, H1 a = none → D (upd H1 a (.list [])) ∧
      ∀ K', loopC (turnC C A (compFm f.env scope K') ⟨tgt, it, ifs, 0⟩ (CompG C A (compFm f.env scope K') (emList C A (compFm f.env scope K') elt a) gs)) D xs (compL scope L1) (upd H1 a (.list [])) fun _ H2 => Q (.ref a) L1 H2) :
    EW C A E f (.ListComp elt (⟨tgt, it, ifs, 0⟩ :: gs) scope p) L H Q := by
  intro s R F
  rw [eval_ListComp]
  show wpAny _ _ (comprehension (.ListComp elt (⟨tgt, it, ifs, 0⟩ :: gs) scope p) scope f.env it.pos (PySem.newList []) false (eval it f.env)) _ _ s
  refine comp_list (Q := fun a L1 H2 => Q (.ref a) L1 H2) O hp hs h R F ?_
  intro a c m s' L1 H2 R2 F2 k2 st2 q hn hc h0 n1 n2 n3 n4 n5
  refine ⟨m, hn, fun h' hs => ?_⟩
  obtain ⟨R3, F3, k3⟩ := ns_but (h := s'.heap) R2 F2 k2 hc h0 n1 n2 n3 hs n5
  exact ⟨L1, H2, R3, F3, k3, ⟨st2.gens, st2.os⟩, q⟩

theorem XW.setComp {x : Str} {xp : Pos} {elt tgt it : Expr} {ifs : List Expr} {gs : List Comprehension} {scope : Scope} {p sp : Pos} {Q : Flow → Loc → AH → Prop}
    (O : CompOk f.env scope) (hp : ∀ K', ∀ g' ∈ ⟨tgt, it, ifs, 0⟩ :: gs, plainGen (compFm f.env scope K') g') (hs : ∀ x, foldedSetIterable it f.env x = pure x)
    (hk : f.env.kindOf x = some .local) (how : f.env.locals ∈ f.ow)
    (h : EW C A E f it L H fun xv L1 H1 => ∃ xs D, D H1 ∧ IterP C A xv xs D ∧ ∀ a, H1 a = none → D (upd H1 a (.list [])) ∧
      ∀ K', loopC (turnC C A (compFm f.env scope K') ⟨tgt, it, ifs, 0⟩ (CompG C A (compFm f.env scope K') (emList C A (compFm f.env scope K') elt a) gs)) D xs (compL scope L1) (upd H1 a (.list [])) fun _ H2 => Q .next (setL L1 x (.ref a)) H2)
    (hsw : swapsWith (.ListComp elt (⟨tgt, it, ifs, 0⟩ :: gs) scope p) (some (.Name x xp)) sp.line f.env = pure true) :
    XW C A E f (.Assign [.Name x xp] (.ListComp elt (⟨tgt, it, ifs, 0⟩ :: gs) scope p) sp) L H Q := by
  unfold XW
  rw [arm_exec_Assign]
  have e1 : swapsWithSole [.Name x xp] (.ListComp elt (⟨tgt, it, ifs, 0⟩ :: gs) scope p) sp.line f.env = pure true := hsw
  rw [e1]
  refine TW.standAt ?_
  simp only [pure_bind, if_true]
  rw [arm_evalThenUse_ListComp]
  intro s R F
  refine wpAny_bind (wpAny_bind (comp_list (Q := fun a L1 H2 => Q .next (setL L1 x (.ref a)) H2) O hp hs h R F ?_))
  intro a c m s' L1 H2 R2 F2 k2 st2 q hn hc h0 n1 n2 n3 n4 n5
  show wpAny _ _ (do standAt xp; bindName f.env x (.ref a)) _ _ s'
  refine wpAny_bind (wpAny_standAt (wpAny_bindName (wpAny_mono (TW.storeLocal (C := C) (A := A) (E := E) (f := f) (L := L1) (H := H2) (v := .ref a) (Q := fun _ L3 H3 => Q .next L3 H3) hk how q s' R2 F2) (fun _ s6 ⟨L6, H6, R6, F6, k6, st6, q6⟩ => ?_) fun _ _ e => e)))
  obtain ⟨oc, es, ep, ec, rest⟩ := hn
  obtain ⟨e6, q6'⟩ := k6.at ec hc n4 n5
  refine ⟨m, ⟨oc, es, ep, e6, rest⟩, fun h' hs => wpAny_pure (wpAny_pure ?_)⟩
  obtain ⟨R7, F7, k7⟩ := ns_but (h := s'.heap) R6 F6 (k2.trans k6) q6' h0 n1 n2 n3 hs n5
  exact ⟨L6, H6, R7, F7, k7, ⟨(st6.gens.trans st2.gens), (st6.os.trans st2.os)⟩, q6⟩

noncomputable def emDict (C : Cx) (A : Around) (f : Fm) (k v : Expr) (a : Addr) (L : Loc) (H : AH) (Q : Loc → AH → Prop) : Prop :=
  EW C A nx f k L H fun kv L1 H1 => EW C A nx f v L1 H1 fun vv L2 H2 => ∃ i es ep, kv = .int i 0 ∧ H2 a = some (.dict es ep) ∧ es.length ≤ sizeLine ∧ ∀ ep', Q L2 (upd H2 a (.dict (stored es i vv) ep'))
theorem stored_er {kvs : List (Int × Value)} {es : List (Int × Value)} (h : kvs.map (fun kv => (kv.1, er kv.2)) = es) (i : Int) (v : Value) : (stored kvs i v).map (fun kv => (kv.1, er kv.2)) = stored es i (er v) := by
  subst h
  unfold stored
  have : (kvs.map (fun kv => (kv.1, er kv.2))).any (fun kv => decide (kv.1 = i)) = kvs.any (fun kv => decide (kv.1 = i)) := by
    simp [List.any_map, Function.comp_def]
  rw [this]
  split
  · simp only [List.map_map]
    congr 1
    funext kv
    simp only [Function.comp]
    split <;> rfl
  · simp
end

section
variable {α β : Type} {C : Cx} {A : Around} {E : Value → Shared → Prop} {f : Fm} {L : Loc} {H : AH}

theorem still {s : Shared} {tk : Nat} {Q : α → AH → Prop} {v : α} (R : Rel C H s) (h : Q v H) : PO C H s Q v { s with toks := tk } :=
  ⟨H, R.toks tk, .refl, ⟨rfl, rfl⟩, h⟩
theorem stay {s : Shared} {Q : α → AH → Prop} {v : α} (R : Rel C H s) (h : Q v H) : PO C H s Q v s :=
  ⟨H, R, .refl, ⟨rfl, rfl⟩, h⟩

theorem int2 {β : Type} {g : Value → Value → Sem β} {a b : Int} {Q : β → AH → Prop} (h : ∀ t u s, Rel C H s → wpAny (model C.prog C.w) A (g (.int a t) (.int b u)) (PO C H s Q) E s) :
    P2 C A E g (.int a 0) (.int b 0) H Q := by
  intro a' b' ha hb s R
  obtain ⟨t, rfl⟩ := er_int ha
  obtain ⟨u, rfl⟩ := er_int hb
  exact h t u s R
theorem P2.add {a b : Int} {Q : Value → AH → Prop} (h : ∀ t, Q (.int (a + b) t) H) : P2 C A E (binaryOp .Add) (.int a 0) (.int b 0) H Q := int2 fun t u s R => add_int (still R (h _))
theorem P2.sub {a b : Int} {Q : Value → AH → Prop} (h : ∀ t, Q (.int (a - b) t) H) : P2 C A E (binaryOp .Sub) (.int a 0) (.int b 0) H Q := int2 fun t u s R => sub_int (still R (h _))
theorem P2.mul {a b : Int} {Q : Value → AH → Prop} (hm : IntMulOk a b) (h : ∀ t, Q (.int (a * b) t) H) : P2 C A E (binaryOp .Mult) (.int a 0) (.int b 0) H Q := int2 fun t u s R => mul_int (still R (h _)) hm
theorem P2.mod {a b : Int} {Q : Value → AH → Prop} (hb : b ≠ 0) (h : ∀ t, Q (.int (a.fmod b) t) H) : P2 C A E (binaryOp .Mod) (.int a 0) (.int b 0) H Q := int2 fun t u s R => mod_int' hb (still R (h _))
theorem P2.div {a b : Int} {Q : Value → AH → Prop} (hb : b ≠ 0) (hp : Builtin.divisionGoesByPylong a b = false) (h : ∀ t, Q (.int (a.fdiv b) t) H) : P2 C A E (binaryOp .FloorDiv) (.int a 0) (.int b 0) H Q := int2 fun t u s R => floordiv_int hb (still R (h _)) (.inl hp)
theorem P2.pow {a n : Int} {Q : Value → AH → Prop} (hn : 0 ≤ n) (hsz : (Builtin.Int.intBits a : Int) * n ≤ 2 ^ 27) (h : ∀ t, Q (.int (a ^ n.toNat) t) H) : P2 C A E (binaryOp .Pow) (.int a 0) (.int n 0) H Q := int2 fun t u s R => pow_int hn hsz (still R (h _))
theorem P2.iadd {a b : Int} {Q : Value → AH → Prop} (h : ∀ t, Q (.int (a + b) t) H) : P2 C A E (inplaceOp .Add) (.int a 0) (.int b 0) H Q := int2 fun t u s R => iadd_int (still R (h _))
theorem P2.isub {a b : Int} {Q : Value → AH → Prop} (h : ∀ t, Q (.int (a - b) t) H) : P2 C A E (inplaceOp .Sub) (.int a 0) (.int b 0) H Q := int2 fun t u s R => isub_int (still R (h _))
theorem P2.eq {a b : Int} {Q : Value → AH → Prop} (h : Q (.bool (a == b)) H) : P2 C A E (compareOp .Eq) (.int a 0) (.int b 0) H Q := int2 fun t u s R => eq_int (stay R h)
theorem P2.ne {a b : Int} {Q : Value → AH → Prop} (h : Q (.bool (a != b)) H) : P2 C A E (compareOp .NotEq) (.int a 0) (.int b 0) H Q := int2 fun t u s R => ne_int (stay R h)
theorem P2.lt {a b : Int} {Q : Value → AH → Prop} (h : Q (.bool (decide (a < b))) H) : P2 C A E (compareOp .Lt) (.int a 0) (.int b 0) H Q := int2 fun t u s R => lt_int (stay R h)
theorem P1.neg {a : Int} {Q : Value → AH → Prop} (h : ∀ t, Q (.int (-a) t) H) : P1 C A E (unaryOp .USub) (.int a 0) H Q := by
  intro a' ha s R
  obtain ⟨t, rfl⟩ := er_int ha
  exact neg_int (still R (h _))
theorem P1.truthy_bool {b : Bool} {Q : Bool → AH → Prop} (h : Q b H) : P1 C A E truthy (.bool b) H Q := by
  intro a' ha
  rw [er_bool ha]; exact PW.truthy_bool h
theorem P1.truthy_none {Q : Bool → AH → Prop} (h : Q false H) : P1 C A E truthy .none H Q := by
  intro a' ha s R
  rw [er_none ha]
  exact fun _ _ _ => stay R h
theorem er_eq_none (v : Value) : (v == .none) = (er v == .none) := by cases v <;> rfl
theorem P2.isNone {v : Value} {Q : Value → AH → Prop} (h : Q (.bool (v == .none)) H) : P2 C A E (compareOp .Is) v .none H Q := by
  intro a' b' ha hb s R
  rw [er_none hb]
  refine is_none (stay R ?_)
  rw [er_eq_none, ha]; exact h
theorem P2.isNotNone {v : Value} {Q : Value → AH → Prop} (h : Q (.bool (!(v == .none))) H) : P2 C A E (compareOp .IsNot) v .none H Q := by
  intro a' b' ha hb s R
  rw [er_none hb]
  refine isNot_none (stay R ?_)
  rw [er_eq_none, ha]; exact h
end

section
variable {α β : Type} {C : Cx} {A : Around} {E : Value → Shared → Prop} {f : Fm} {L : Loc} {H : AH}

theorem Rel.seq {s : Shared} {a : Addr} {xs ys : List Value} {vs : Array Value} {n : Nat} {g : Array Value → Array Value} (R : Rel C H s) (ha : H a = some (.list xs)) (e : IsL s.heap a vs n) (hg : (g vs).toList.map er = ys) :
    Rel C (upd H a (.list ys)) { s with heap := s.heap.update a (Obj.mapSeq g) } ∧ Kept C.fr [] H (upd H a (.list ys)) s.heap (s.heap.update a (Obj.mapSeq g)) := by
  have hs : Heap.SameBut a s.heap (s.heap.update a (Obj.mapSeq g)) := Heap.SameBut.update ..
  exact R.set (tk := s.toks) ha (fun b o hb e => (hs.2 b hb).trans e) ⟨_, _, e.update g, hg⟩ rfl rfl

theorem MethP.list {a : Addr} {xs : List Value} {name : Str} {id : String} {Q : Value → List Value → AH → Prop} (ha : H a = some (.list xs)) (slot : Slot "list" name id) (ty : typeOf (.builtin id) = pure (.type "method_descriptor")) (h : Q (.builtin id) [.ref a] H) :
    MethP C A E (.ref a) name H Q := by
  intro ov' pl e s R
  rw [er_ref e]
  obtain ⟨vs, n, e, q⟩ := R.rep a _ ha
  refine getMethod_builtin ⟨_, e, rfl⟩ F.plainAttrs_list slot ty (fun b hb => ?_) (stay R h)
  cases hb; exact ⟨_, e, rfl⟩
theorem MethP.dict {a : Addr} {es : List (Int × Value)} {ep : Nat} {name : Str} {id : String} {Q : Value → List Value → AH → Prop} (ha : H a = some (.dict es ep)) (slot : Slot "dict" name id) (ty : typeOf (.builtin id) = pure (.type "method_descriptor")) (h : Q (.builtin id) [.ref a] H) :
    MethP C A E (.ref a) name H Q := by
  intro ov' pl e s R
  rw [er_ref e]
  obtain ⟨kvs, e, q⟩ := R.rep a _ ha
  refine getMethod_builtin e.dictOf.typeIs F.plainAttrs_dict slot ty e.dictOf.mapOf.noDict (stay R h)
theorem MethP.set {a : Addr} {xs : List Int} {name : Str} {id : String} {Q : Value → List Value → AH → Prop} (ha : H a = some (.set xs)) (slot : Slot "set" name id) (ty : typeOf (.builtin id) = pure (.type "method_descriptor")) (h : Q (.builtin id) [.ref a] H) :
    MethP C A E (.ref a) name H Q := by
  intro ov' pl e s R
  rw [er_ref e]
  obtain ⟨o, es, ep, t, e1, e2, e3, q⟩ := R.rep a _ ha
  refine getMethod_builtin ⟨_, e1, e2.1⟩ F.plainAttrs_set slot ty (fun b hb => ?_) (stay R h)
  cases hb; exact ⟨_, e1, e2.2.1⟩

theorem map1 {vs : List Value} {a : Value} (h : vs.map er = [a]) : ∃ x, vs = [x] ∧ er x = a := by
  cases vs with
  | nil => simp at h
  | cons x r => cases r with
    | nil => exact ⟨x, rfl, by simpa using h⟩
    | cons y r => simp at h
theorem map2 {vs : List Value} {a b : Value} (h : vs.map er = [a, b]) : ∃ x y, vs = [x, y] ∧ er x = a ∧ er y = b := by
  cases vs with
  | nil => simp at h
  | cons x r =>
    simp only [List.map_cons, List.cons.injEq] at h
    obtain ⟨y, rfl, hy⟩ := map1 h.2
    exact ⟨x, y, rfl, h.1, hy⟩
theorem map3 {vs : List Value} {a b c : Value} (h : vs.map er = [a, b, c]) : ∃ x y z, vs = [x, y, z] ∧ er x = a ∧ er y = b ∧ er z = c := by
  cases vs with
  | nil => simp at h
  | cons x r =>
    simp only [List.map_cons, List.cons.injEq] at h
    obtain ⟨y, z, rfl, hy, hz⟩ := map2 h.2
    exact ⟨x, y, z, rfl, h.1, hy, hz⟩
theorem map_eraseIdx {α β : Type} (g : α → β) : ∀ (l : List α) (i : Nat), (l.eraseIdx i).map g = (l.map g).eraseIdx i
  | [], _ => rfl
  | _ :: _, 0 => rfl
  | x :: l, i + 1 => by simp [map_eraseIdx g l i]
theorem toList_erase (vs : Array Value) (i : Nat) : (vs.eraseIdxIfInBounds i).toList = vs.toList.eraseIdx i := by
  unfold Array.eraseIdxIfInBounds
  split
  · simp
  · rw [List.eraseIdx_of_length_le (by simpa using Nat.not_lt.mp ‹_›)]
theorem CallP.of1 {id : String} {a : Addr} {Q : Value → AH → Prop} (h : PW C A E (call (.builtin id) [.ref a]) H fun v H' => Q (er v) H') : CallP C A E (.builtin id) [.ref a] H Q := by
  intro f' vs' ef ev
  rw [er_builtin ef]
  obtain ⟨x, rfl, e⟩ := map1 ev
  rw [er_ref e]; exact h
theorem CallP.of2 {id : String} {a : Addr} {v : Value} {Q : Value → AH → Prop} (h : ∀ v', er v' = v → PW C A E (call (.builtin id) [.ref a, v']) H fun v H' => Q (er v) H') : CallP C A E (.builtin id) [.ref a, v] H Q := by
  intro f' vs' ef ev
  rw [er_builtin ef]
  obtain ⟨x, y, rfl, e, e'⟩ := map2 ev
  rw [er_ref e]; exact h y e'

theorem CallP.lappend {a : Addr} {xs : List Value} {v : Value} {Q : Value → AH → Prop} (ha : H a = some (.list xs)) (hsz : xs.length ≤ sizeLine) (h : Q .none (upd H a (.list (xs ++ [v])))) : CallP C A E (.builtin "list.append") [.ref a, v] H Q :=
  CallP.of2 fun v' e => PW.append ha hsz (by rw [e]; exact h)
theorem CallP.lclear {a : Addr} {xs : List Value} {Q : Value → AH → Prop} (ha : H a = some (.list xs)) (hsz : xs.length ≤ sizeLine) (h : Q .none (upd H a (.list []))) : CallP C A E (.builtin "list.clear") [.ref a] H Q := by
  refine CallP.of1 fun s R => ?_
  obtain ⟨vs, n, e, q⟩ := R.rep a _ ha
  have hz : vs.size ≤ sizeLine := by rw [← q] at hsz; simpa using hsz
  obtain ⟨R', k⟩ := R.seq (g := fun _ => #[]) (ys := []) ha e (by rfl)
  exact call_meets F.slot_list_clear ⟨_, e, rfl⟩ F.entry_list_clear (F.args_list_clear_1 _) (AutoSeq1.list_clear_list_0 a vs n hz) ⟨e, _, R', k, ⟨rfl, rfl⟩, h⟩
theorem CallP.lpop {a : Addr} {xs : List Value} {x : Value} {Q : Value → AH → Prop} (ha : H a = some (.list (xs ++ [x]))) (hsz : xs.length < sizeLine) (h : Q x (upd H a (.list xs))) : CallP C A E (.builtin "list.pop") [.ref a] H Q := by
  refine CallP.of1 fun s R => ?_
  obtain ⟨vs, n, e, q⟩ := R.rep a _ ha
  have hlen : vs.size = xs.length + 1 := by have := congrArg List.length q; simpa using this
  have hz : vs.size ≤ sizeLine := by lia
  obtain ⟨y, hy, ey⟩ := getElem?_map_er q (i := xs.length) (x := x) (by simp)
  have hg : ((fun zs : Array Value => zs.eraseIdxIfInBounds (vs.size - 1)) vs).toList.map er = xs := by
    have e1 : vs.size - 1 = xs.length := by lia
    show ((vs.eraseIdxIfInBounds (vs.size - 1)).toList).map er = xs
    rw [toList_erase, map_eraseIdx, q, e1]
    rw [List.eraseIdx_append_of_length_le (Nat.le_refl _)]
    simp
  obtain ⟨R', k⟩ := R.seq (g := fun zs => zs.eraseIdxIfInBounds (vs.size - 1)) ha e hg
  refine call_meets F.slot_list_pop ⟨_, e, rfl⟩ F.entry_list_pop (F.args_list_pop_1 _) (MeetsSeq.list_pop_last a vs n y (by rw [show vs.size - 1 = xs.length by lia]; exact hy) hz) ⟨e, _, R', k, ⟨rfl, rfl⟩, ?_⟩
  show Q (er y) _
  rw [ey]; exact h
end

noncomputable def isSlice : Expr → Bool
  | .Slice _ _ _ _ => true
  | _ => false
noncomputable def pick (xs : List Value) (lo hi : Option Int) : List Value := (xs.drop (lo.elim 0 (clipAt xs.length))).take (hi.elim xs.length (clipAt xs.length) - lo.elim 0 (clipAt xs.length))
noncomputable def EWo (C : Cx) (A : Around) (E : Value → Shared → Prop) (f : Fm) (e : Option Expr) (L : Loc) (H : AH) (Q : Option Int → Loc → AH → Prop) : Prop :=
  match e with
  | none => Q none L H
  | some e => EW C A E f e L H fun v L1 H1 => ∃ i, v = .int i 0 ∧ Q (some i) L1 H1
section
variable {α β : Type} {C : Cx} {A : Around} {E : Value → Shared → Prop} {f : Fm} {L : Loc} {H : AH}

theorem subscripted_plain {ie : Expr} {o i : Value} (h : isSlice ie = false) : subscripted ie false o i = operate [o, i] (getItem o i) := by
  cases ie <;> first | rfl | cases h
theorem P2.tail {ve ie : Expr} {a : Addr} {i : Value} {T id : String} {Q : Value → AH → Prop} (hT : ∀ s, Rel C H s → s.TypeIs (.ref a) T) (hl : typeLookup (.type T) "__getitem__" = pure (some (.builtin id)))
    (h : P2 C A E getItem (.ref a) i H Q) (hs : isSlice ie = false := by rfl) : P2 C A E (subscriptTail ve ie) (.ref a) i H Q := by
  intro a' i' ea ei s R
  have e := er_ref ea; subst e
  exact tail_any (hT s R) hl (h _ i' rfl ei s R) (subscripted_plain hs)
theorem list_type {a : Addr} {xs : List Value} (ha : H a = some (.list xs)) {s : Shared} (R : Rel C H s) : s.TypeIs (.ref a) "list" := by
  obtain ⟨vs, n, e, q⟩ := R.rep a _ ha
  exact ⟨_, e, rfl⟩
theorem dict_type {a : Addr} {es : List (Int × Value)} {ep : Nat} (ha : H a = some (.dict es ep)) {s : Shared} (R : Rel C H s) : s.TypeIs (.ref a) "dict" := by
  obtain ⟨kvs, e, q⟩ := R.rep a _ ha
  exact e.dictOf.typeIs

theorem P2.getList {a : Addr} {xs : List Value} {i : Int} {x : Value} {Q : Value → AH → Prop} (ha : H a = some (.list xs)) (h0 : 0 ≤ i) (hx : xs[i.toNat]? = some x) (hfit : i < 2 ^ 63) (h : ∀ v, er v = x → Q v H) : P2 C A E getItem (.ref a) (.int i 0) H Q := by
  intro a' i' ea ei s R
  have e := er_ref ea; subst e
  obtain ⟨t, rfl⟩ := er_int ei
  obtain ⟨vs, n, e, q⟩ := R.rep a _ ha
  obtain ⟨v, hv, ev⟩ := getElem?_map_er q hx
  exact wpAny_getItem_list ⟨_, e, rfl, n, rfl⟩ h0 hfit hv (stay R (h v ev))
theorem P2.getListNeg {a : Addr} {xs : List Value} {i : Int} {x : Value} {Q : Value → AH → Prop} (ha : H a = some (.list xs)) (h0 : i < 0) (h1 : -(xs.length : Int) ≤ i) (hx : xs[(i + xs.length).toNat]? = some x) (hfit : -(2 ^ 63) ≤ i) (h : ∀ v, er v = x → Q v H) : P2 C A E getItem (.ref a) (.int i 0) H Q := by
  intro a' i' ea ei s R
  have e := er_ref ea; subst e
  obtain ⟨t, rfl⟩ := er_int ei
  obtain ⟨vs, n, e, q⟩ := R.rep a _ ha
  obtain ⟨v, hv, ev⟩ := getElem?_map_er q hx
  have hl : vs.size = xs.length := by have := congrArg List.length q; simpa using this
  exact wpAny_getItem_list_neg ⟨_, e, rfl, n, rfl⟩ h0 (by rw [hl]; exact h1) hfit (by rw [hl]; exact hv) (stay R (h v ev))
theorem valueAt_er {kvs es : List (Int × Value)} (h : kvs.map (fun kv => (kv.1, er kv.2)) = es) (i : Int) : valueAt es i = (valueAt kvs i).map er := by
  subst h
  unfold valueAt
  induction kvs with
  | nil => rfl
  | cons kv r ih =>
    simp only [List.map_cons, List.find?_cons]
    by_cases e : kv.1 = i
    · simp [e]
    · simp only [e, decide_false]; exact ih
theorem P2.getDict {a : Addr} {es : List (Int × Value)} {ep : Nat} {i : Int} {x : Value} {Q : Value → AH → Prop} (ha : H a = some (.dict es ep)) (hx : valueAt es i = some x) (h : ∀ v, er v = x → Q v H) : P2 C A E getItem (.ref a) (.int i 0) H Q := by
  intro a' i' ea ei s R
  have e := er_ref ea; subst e
  obtain ⟨t, rfl⟩ := er_int ei
  obtain ⟨kvs, e, q⟩ := R.rep a _ ha
  rw [valueAt_er q] at hx
  obtain ⟨u, e1, e2⟩ := map_some_er hx
  exact wpAny_getItem_of (intKind_is C.prog C.w i t) e.dictOf.mapOf e1 (still R (h u e2))
theorem setDict {a : Addr} {es : List (Int × Value)} {ep : Nat} {i : Int} {t : Tok} {v : Value} {Q : Unit → AH → Prop} (ha : H a = some (.dict es ep)) (hsz : es.length ≤ sizeLine) (h : ∀ ep', Q () (upd H a (.dict (stored es i (er v)) ep'))) :
    PW C A E (setItem (.ref a) (.int i t) v) H Q := by
  intro s R
  obtain ⟨kvs, e, q⟩ := R.rep a _ ha
  have hs : kvs.length ≤ sizeLine := by rw [← q] at hsz; simpa using hsz
  refine wpAny_setItem_pairs (intKind_is C.prog C.w i t) e.dictOf (fun h' hd' hs' => ?_) hs
  obtain ⟨ep', hd''⟩ := hd'.dictAt
  have hr : Rep C h' a (.dict (stored es i (er v)) ep') := ⟨_, hd'', stored_er q i v⟩
  obtain ⟨R', k⟩ := R.set (tk := s.toks + 1) ha (fun b o hb e => (hs'.2 b hb).trans e) hr rfl rfl
  exact ⟨_, R', k, ⟨rfl, rfl⟩, h ep'⟩
theorem setList {a : Addr} {xs : List Value} {i : Int} {t : Tok} {v : Value} {Q : Unit → AH → Prop} (ha : H a = some (.list xs)) (h0 : 0 ≤ i) (hn : i < xs.length) (hfit : i < 2 ^ 63) (h : Q () (upd H a (.list (xs.set i.toNat (er v))))) :
    PW C A E (setItem (.ref a) (.int i t) v) H Q := by
  intro s R
  obtain ⟨vs, n, e, q⟩ := R.rep a _ ha
  have hl : vs.size = xs.length := by have := congrArg List.length q; simpa using this
  obtain ⟨R', k⟩ := R.seq (g := fun zs => zs.setIfInBounds i.toNat v) (ys := xs.set i.toNat (er v)) ha e (by simp [List.map_set, q])
  exact ki_setAt (n := n) e h0 hfit (by rw [hl]; exact hn) ⟨_, R', k, ⟨rfl, rfl⟩, h⟩

theorem EW.slice {lo hi : Option Expr} {p : Pos} {Q : Value → Loc → AH → Prop}
    (h : EWo C A E f lo L H fun a L1 H1 => EWo C A E f hi L1 H1 fun b L2 H2 => ∀ c, H2 c = none → Q (.ref c) L2 (upd H2 c (.slice a b))) : EW C A E f (.Slice lo hi none p) L H Q := by
  have part : ∀ (e : Option Expr) (L : Loc) (H : AH) (K : Option Int → Loc → AH → Prop), EWo C A E f e L H K → TW C A E f (evalPart e f.env) L H fun v L1 H1 => ∃ i, IsPart v i ∧ K i L1 H1 := by
    intro e L H K h
    cases e with
    | none => rw [evalPart_none]; exact TW.pure ⟨_, .none, h⟩
    | some e =>
      rw [evalPart_some]
      refine TW.mono h fun v L1 H1 ⟨i, e1, q⟩ => ?_
      obtain ⟨t, rfl⟩ := er_int e1
      exact ⟨some i, .int i t, q⟩
  intro s R F
  refine wpAny_Slice (wpAny_mono (part lo L H _ h s R F) (fun vl s1 ⟨L1, H1, R1, F1, k1, st1, a, pa, q1⟩ => wpAny_mono (part hi L1 H1 _ q1 s1 R1 F1) (fun vu s2 ⟨L2, H2, R2, F2, k2, st2, b, pb, q2⟩ => ?_) fun _ _ e => e) fun _ _ e => e)
  rw [evalPart_none]
  refine wpAny_pure ?_
  have hr : Rep C (s2.heap.push { cls := .type "slice", data := .fields #[vl, vu, .none] }) s2.heap.objs.size (.slice a b) := ⟨vl, vu, Heap.IsSliceOf.new .., pa, pb⟩
  obtain ⟨R', k⟩ := R2.alloc (tk := s2.toks) (Mine.dead _) (fun b x e => Heap.get?_push_of_some _ e) hr rfl
  exact ⟨L2, _, R', F2.keeps k, k1.trans (k2.trans (k.weak (by simp))), ⟨st2.gens.trans st1.gens, st2.os.trans st1.os⟩, q2 _ (R2.dead (Mine.dead _)).1⟩
theorem pick_er {vs : Array Value} {xs : List Value} (h : vs.toList.map er = xs) (lo hi : Option Int) : (slicePick vs lo hi none).toList.map er = pick xs lo hi := by
  have hl : vs.size = xs.length := by have := congrArg List.length h; simpa using this
  rw [slicePick_plain]
  unfold pick
  simp only [List.map_take, List.map_drop, h, hl]
theorem P2.slice {ve : Expr} {lo' hi' : Option Expr} {p : Pos} {a c : Addr} {xs : List Value} {lo hi : Option Int} {Q : Value → AH → Prop} (ha : H a = some (.list xs)) (hc : H c = some (.slice lo hi)) (hsz : xs.length ≤ sizeLine)
    (h : ∀ r, H r = none → Q (.ref r) (upd H r (.list (pick xs lo hi)))) : P2 C A E (subscriptTail ve (.Slice lo' hi' none p)) (.ref a) (.ref c) H Q := by
  intro a' c' ea ec s R
  have e := er_ref ea; subst e
  have e := er_ref ec; subst e
  obtain ⟨vs, n, e, q⟩ := R.rep a _ ha
  obtain ⟨vl, vu, hs, pl, pu⟩ := R.rep c _ hc
  have hl : vs.size = xs.length := by have := congrArg List.length q; simpa using this
  have hr : Rep C (s.heap.push { cls := .type "list", data := .seq (slicePick vs lo hi none) }) s.heap.objs.size (.list (pick xs lo hi)) := ⟨_, 0, Heap.get?_push_size _ rfl, pick_er q lo hi⟩
  obtain ⟨R', k⟩ := R.alloc (tk := s.toks) (Mine.dead _) (fun b x e => Heap.get?_push_of_some _ e) hr rfl
  refine tail_any (ops := [.ref c, .ref a]) ⟨_, e, rfl⟩ list_getitem_lookup (wpAny_getItem_list_slice ⟨_, e, rfl, n, rfl⟩ hs pl pu .none (by simp) ⟨_, R', k, ⟨rfl, rfl⟩, h _ (R.dead (Mine.dead _)).1⟩ (by lia)) rfl
end

section
variable {α β : Type} {C : Cx} {A : Around} {E : Value → Shared → Prop} {f : Fm} {L : Loc} {H : AH}

theorem CallP.t1 {T : String} {v : Value} {Q : Value → AH → Prop} (h : ∀ v', er v' = v → PW C A E (call (.type T) [v']) H fun v H' => Q (er v) H') : CallP C A E (.type T) [v] H Q := by
  intro f' vs' ef ev
  rw [er_type ef]
  obtain ⟨x, rfl, e⟩ := map1 ev
  exact h x e
theorem CallP.b1 {id : String} {v : Value} {Q : Value → AH → Prop} (h : ∀ v', er v' = v → PW C A E (call (.builtin id) [v']) H fun v H' => Q (er v) H') : CallP C A E (.builtin id) [v] H Q := by
  intro f' vs' ef ev
  rw [er_builtin ef]
  obtain ⟨x, rfl, e⟩ := map1 ev
  exact h x e
theorem size_er {vs : Array Value} {xs : List Value} (q : vs.toList.map er = xs) : vs.size = xs.length := by have := congrArg List.length q; simpa using this

theorem CallP.lenList {a : Addr} {xs : List Value} {Q : Value → AH → Prop} (ha : H a = some (.list xs)) (hf : (xs.length : Int) < 2 ^ 63) (h : Q (.int xs.length 0) H) : CallP C A E (.builtin "len") [.ref a] H Q := by
  refine CallP.of1 fun s R => ?_
  obtain ⟨vs, n, e, q⟩ := R.rep a _ ha
  have hl := size_er q
  refine len_list ⟨_, e, rfl, n, rfl⟩ (by rw [hl]; exact hf) (still R ?_)
  show Q (.int vs.size 0) H
  rw [hl]; exact h
theorem CallP.lenBlist {a : Addr} {xs : List Value} {Q : Value → AH → Prop} (ha : H a = some (.blist xs)) (hf : (xs.length : Int) < 2 ^ 63) (h : Q (.int xs.length 0) H) : CallP C A E (.builtin "len") [.ref a] H Q := by
  refine CallP.of1 fun s R => ?_
  obtain ⟨vs, e, q⟩ := R.rep a _ ha
  have hl := size_er q
  refine len_list e (by rw [hl]; exact hf) (still R ?_)
  show Q (.int vs.size 0) H
  rw [hl]; exact h
theorem CallP.lenTuple {a : Addr} {xs : List Value} {Q : Value → AH → Prop} (ha : H a = some (.tuple xs)) (hf : (xs.length : Int) < 2 ^ 63) (h : Q (.int xs.length 0) H) : CallP C A E (.builtin "len") [.ref a] H Q := by
  refine CallP.of1 fun s R => ?_
  obtain ⟨vs, n, e, q⟩ := R.rep a _ ha
  have hl := size_er q
  refine P.len_tuple e (by rw [hl]; lia) (still R ?_)
  show Q (.int vs.size 0) H
  rw [hl]; exact h
theorem alloc_push {s : Shared} {o : Obj} {ao : AO} {tk : Nat} {Q : Value → AH → Prop} (R : Rel C H s) (hr : Rep C (s.heap.push o) s.heap.objs.size ao) (hs : ao.simple = true) (h : ∀ r, H r = none → Q (.ref r) (upd H r ao)) :
    PO C H s Q (.ref s.heap.objs.size) { s with heap := s.heap.push o, toks := tk } := by
  obtain ⟨R', k⟩ := R.alloc (tk := tk) (Mine.dead _) (fun b x e => Heap.get?_push_of_some _ e) hr hs
  exact ⟨_, R', k, ⟨rfl, rfl⟩, h _ (R.dead (Mine.dead _)).1⟩
theorem CallP.range1 {n : Int} {Q : Value → AH → Prop} (h : ∀ r, H r = none → Q (.ref r) (upd H r (.range 0 n 1))) : CallP C A E (.type "range") [.int n 0] H Q := by
  refine CallP.t1 fun v' ev s R => ?_
  obtain ⟨t, rfl⟩ := er_int ev
  exact call_range_1 (alloc_push (ao := .range _ _ _) R ⟨_, _, _, Heap.get?_push_size _ rfl⟩ rfl h)
theorem CallP.range3 {a b c : Int} {Q : Value → AH → Prop} (hc : c ≠ 0) (hp : Builtin.divisionGoesByPylong (b - a) c = false) (h : ∀ r, H r = none → Q (.ref r) (upd H r (.range a b c))) : CallP C A E (.type "range") [.int a 0, .int b 0, .int c 0] H Q := by
  intro f' vs' ef ev s R
  rw [er_type ef]
  obtain ⟨x, y, z, rfl, e1, e2, e3⟩ := map3 ev
  obtain ⟨t, rfl⟩ := er_int e1
  obtain ⟨u, rfl⟩ := er_int e2
  obtain ⟨v, rfl⟩ := er_int e3
  exact call_range_3 hc (alloc_push (ao := .range _ _ _) R ⟨_, _, _, Heap.get?_push_size _ rfl⟩ rfl h) (.inl hp)
theorem CallP.tupleList {a : Addr} {xs : List Value} {Q : Value → AH → Prop} (ha : H a = some (.list xs)) (hsz : xs.length ≤ sizeLine) (h : ∀ r, H r = none → Q (.ref r) (upd H r (.tuple xs))) : CallP C A E (.type "tuple") [.ref a] H Q := by
  refine CallP.t1 fun v' ev s R => ?_
  have e := er_ref ev; subst e
  obtain ⟨vs, n, e, q⟩ := R.rep a _ ha
  have hl := size_er q
  refine call_tuple_list ⟨_, e, rfl, n, rfl⟩ (fun h' hk => ?_) (by lia)
  have hd : s.heap.get? h'.objs.size = none := by
    cases e : s.heap.get? h'.objs.size with
    | none => rfl
    | some o => exact absurd (Heap.lt_size (hk _ _ e)) (Nat.lt_irrefl _)
  have hm : h'.objs.size ≠ sysModules := by
    obtain ⟨o, e⟩ := C.pin
    have h3 : (3 : Nat) < h'.objs.size := Heap.lt_size (hk _ _ (R.keep _ _ e))
    exact Nat.ne_of_gt (Nat.lt_trans (by decide : (1 : Nat) < 3) h3)
  have hr : Rep C (h'.push { cls := .type "tuple", data := .seq vs }) h'.objs.size (.tuple xs) := ⟨vs, 0, Heap.get?_push_size _ rfl, q⟩
  obtain ⟨R', k⟩ := R.alloc' (tk := s.toks) hd (fun b x e => Heap.get?_push_of_some _ (hk b x e)) hr rfl hm
  exact ⟨_, R', k, ⟨rfl, rfl⟩, h _ (R.dead hd).1⟩
theorem list_seq {a : Addr} {T : String} {xs : List Value} {vs : Array Value} {n : Nat} {s : Shared} {Q : Value → AH → Prop} (R : Rel C H s) (hT : T = "list" ∨ T = "tuple") (e : s.heap.get? a = some { cls := .type T, data := .seq vs n }) (q : vs.toList.map er = xs) (hsz : xs.length ≤ sizeLine) (h : ∀ r, H r = none → Q (.ref r) (upd H r (.list xs))) :
    wpAny (model C.prog C.w) A (call (.type "list") [.ref a]) (PO C H s fun v => Q (er v)) E s := by
  have hl := size_er q
  refine call_list_seq a hT e rfl rfl (fun h' c' hk ho => ?_) (by lia)
  obtain ⟨R', k⟩ := R.alloc (tk := s.toks) (Mine.dead _) hk (o := .list xs) ⟨vs, c', ho, q⟩ rfl
  exact ⟨_, R', k, ⟨rfl, rfl⟩, h _ (R.dead (Mine.dead _)).1⟩
theorem CallP.listList {a : Addr} {xs : List Value} {Q : Value → AH → Prop} (ha : H a = some (.list xs)) (hsz : xs.length ≤ sizeLine) (h : ∀ r, H r = none → Q (.ref r) (upd H r (.list xs))) : CallP C A E (.type "list") [.ref a] H Q := by
  refine CallP.t1 fun v' ev s R => ?_
  have e := er_ref ev; subst e
  obtain ⟨vs, n, e, q⟩ := R.rep a _ ha
  exact list_seq R (.inl rfl) e q hsz h
theorem P1.truthy_list {a : Addr} {xs : List Value} {Q : Bool → AH → Prop} (ha : H a = some (.list xs)) (hf : (xs.length : Int) < 2 ^ 63) (h : Q (!xs.isEmpty) H) : P1 C A E truthy (.ref a) H Q := by
  intro a' ea s R
  have e := er_ref ea; subst e
  obtain ⟨vs, n, e, q⟩ := R.rep a _ ha
  have hl := size_er q
  refine wpAny_truthy_list ⟨_, e, rfl, n, rfl⟩ (by rw [hl]; exact hf) (still R ?_)
  have : vs.isEmpty = xs.isEmpty := by
    rw [← q]; cases hv : vs.toList with
    | nil => simp [Array.isEmpty, ← Array.length_toList, hv]
    | cons x r => simp [Array.isEmpty, ← Array.length_toList, hv]
  rw [this]; exact h
theorem CallP.dget {a : Addr} {es : List (Int × Value)} {ep : Nat} {i : Int} {Q : Value → AH → Prop} (ha : H a = some (.dict es ep)) (h : Q ((valueAt es i).getD .none) H) : CallP C A E (.builtin "dict.get") [.ref a, .int i 0] H Q := by
  refine CallP.of2 fun v' ev s R => ?_
  obtain ⟨t, rfl⟩ := er_int ev
  obtain ⟨kvs, e, q⟩ := R.rep a _ ha
  refine call_meetsIn F.slot_dict_get e.dictOf.typeIs F.entry_dict_get (F.args_dict_get_2 _ _) (meets_dict_get (intKind C.prog C.w) a (intKind_is C.prog C.w i t) (R.notMods ha rfl)) ⟨_, e.dictOf.mapOf, still R ?_⟩
  show Q (er ((valueAt kvs i).getD .none)) H
  have : er ((valueAt kvs i).getD .none) = (valueAt es i).getD .none := by
    rw [valueAt_er q]; cases valueAt kvs i <;> rfl
  rw [this]; exact h
theorem P2.inDict {a : Addr} {es : List (Int × Value)} {ep : Nat} {i : Int} {Q : Value → AH → Prop} (ha : H a = some (.dict es ep)) (h : Q (.bool (valueAt es i).isSome) H) : P2 C A E (compareOp .In) (.int i 0) (.ref a) H Q := by
  intro i' a' ei ea s R
  have e := er_ref ea; subst e
  obtain ⟨t, rfl⟩ := er_int ei
  obtain ⟨kvs, e, q⟩ := R.rep a _ ha
  refine wpAny_in_of (intKind_is C.prog C.w i t) (R.notMods ha rfl) e.dictOf.mapOf (still R ?_)
  rw [valueAt_er q] at h
  simpa using h
end

section
variable {α β : Type} {C : Cx} {A : Around} {E : Value → Shared → Prop} {f : Fm} {L : Loc} {H : AH}

theorem CallP.setNew {Q : Value → AH → Prop} (h : ∀ r, H r = none → Q (.ref r) (upd H r (.set []))) : CallP C A E (.type "set") [] H Q := by
  intro f' vs' ef ev s R
  rw [er_type ef]
  have : vs' = [] := by simpa using ev
  subst this
  refine call_set_0 fun led => ?_
  have hr : Rep C (s.heap.push { cls := .type "set", dict := none, data := .set #[] 0 (.fresh 0 0 led) }) s.heap.objs.size (.set []) := by
    refine ⟨_, #[], 0, _, Heap.get?_push_size _ rfl, ⟨rfl, rfl, rfl⟩, rfl, fun _ he => by simp at he, fun k => by simp, by decide, ?_, rfl⟩
    cases led <;> rfl
  exact alloc_push (tk := s.toks) R hr rfl h
theorem CallP.sadd {a : Addr} {xs : List Int} {i : Int} {Q : Value → AH → Prop} (ha : H a = some (.set xs)) (hroom : xs.length + 1 < scanBound) (h : Q .none (upd H a (.set (if i ∈ xs then xs else i :: xs)))) : CallP C A E (.builtin "set.add") [.ref a, .int i 0] H Q := by
  refine CallP.of2 fun v' ev s R => ?_
  obtain ⟨t, rfl⟩ := er_int ev
  have hS := R.rep a _ ha
  refine call_set_add (intKind_is C.prog C.w i t) rfl hS hroom fun h' hs' hS' => ?_
  have hr : Rep C h' a (.set (if i ∈ xs then xs else i :: xs)) := by
    show h'.SetOf _ _ _ _
    by_cases hi : i ∈ xs
    · simp only [hi, if_true, decide_true] at hS' ⊢
      have e : (fun k' => decide (k' ∈ xs) || decide (k' = i)) = fun k' => decide (k' ∈ xs) := by
        funext k'
        by_cases hk : k' = i
        · subst hk; simp [hi]
        · simp [hk]
      rw [e] at hS'; exact hS'
    · simp only [hi, if_false, decide_false, Bool.false_eq_true] at hS' ⊢
      have e : (fun k' => decide (k' ∈ xs) || decide (k' = i)) = fun k' => decide (k' ∈ i :: xs) := by
        funext k'
        by_cases hk : k' = i
        · subst hk; simp
        · simp [hk]
      rw [e] at hS'; simpa using hS'
  obtain ⟨R', k⟩ := R.set (tk := s.toks + 1) ha (fun b o hb e => (hs'.2 b hb).trans e) hr rfl rfl
  exact ⟨_, R', k, ⟨rfl, rfl⟩, h⟩
theorem P2.inSet {a : Addr} {xs : List Int} {i : Int} {Q : Value → AH → Prop} (ha : H a = some (.set xs)) (h : Q (.bool (decide (i ∈ xs))) H) : P2 C A E (compareOp .In) (.int i 0) (.ref a) H Q := by
  intro i' a' ei ea s R
  have e := er_ref ea; subst e
  obtain ⟨t, rfl⟩ := er_int ei
  exact wpAny_inSet_of (intKind_is C.prog C.w i t) rfl (R.rep a _ ha) (still R h)
noncomputable def ivs (ns : List Int) : List Value := ns.map fun n => Value.int n 0
theorem ints_mem {vs : Array Value} {ns : List Int} (q : vs.toList.map er = ivs ns) : ∀ y, y ∈ vs → ∃ a u, y = .int a u := by
  intro y hy
  have : er y ∈ vs.toList.map er := List.mem_map.mpr ⟨y, Array.mem_toList_iff.mpr hy, rfl⟩
  rw [q] at this
  obtain ⟨n, _, e⟩ := List.mem_map.mp this
  obtain ⟨t, rfl⟩ := er_int e.symm
  exact ⟨n, t, rfl⟩
theorem any_ints' {l : List Value} {ns : List Int} (q : l.map er = ivs ns) (k : Int) : l.any (fun y => match y with | .int i _ => i == k | _ => false) = ns.contains k := by
  induction l generalizing ns with
  | nil => cases ns with
    | nil => rfl
    | cons n r => simp [ivs] at q
  | cons v l ih => cases ns with
    | nil => simp [ivs] at q
    | cons n r =>
      simp only [ivs, List.map_cons, List.cons.injEq] at q
      obtain ⟨t, rfl⟩ := er_int q.1
      rw [List.any_cons, ih (ns := r) q.2, List.contains_cons]
      simp [Bool.beq_comm, eq_comm]
theorem P2.inList {a : Addr} {ns : List Int} {k : Int} {Q : Value → AH → Prop} (ha : H a = some (.list (ivs ns))) (h : Q (.bool (ns.contains k)) H) : P2 C A E (compareOp .In) (.int k 0) (.ref a) H Q := by
  intro i' a' ei ea s R
  have e := er_ref ea; subst e
  obtain ⟨t, rfl⟩ := er_int ei
  obtain ⟨vs, n, e, q⟩ := R.rep a _ ha
  refine SeqRoads2.in_list (items := vs) (n := n) (fun y => match y with | .int i _ => i == k | _ => false) (fun y hy => ?_) e (stay R ?_)
  · obtain ⟨a, u, rfl⟩ := ints_mem q y hy
    exact MeetsSeq.EqGives.int a k u t
  · rw [← Array.any_toList, any_ints' q]; exact h
end

set_option genInjectivity false in
structure Cls (C : Cx) (c N : Addr) (mN : Str → Option Value) : Prop where
  obj : ∃ nm q bs sn sub ab col dd k0 k1 k2 k3 k5 newId, C.h₀.get? c = some (excClassObj nm q c N bs [.type "object"] true sn sub ab col dd k0 k1 k2 k3 k5 newId)
  ns : C.h₀.Ns N mN
  ga : mN "__getattribute__" = none
  gt : mN "__getattr__" = none
  st : mN "__setattr__" = none
noncomputable def handed : Value → Bool
  | .builtin _ => false
  | _ => true
noncomputable def putF (fs : List (Str × Value)) (n : Str) (v : Value) : List (Str × Value) := if (fs.lookup n).isSome then fs.map (fun p => if p.1 = n then (n, v) else p) else fs ++ [(n, v)]
theorem putF_lookup (fs : List (Str × Value)) (n : Str) (v : Value) (y : Str) : (putF fs n v).lookup y = if y = n then some v else fs.lookup y := by
  unfold putF
  split
  · rename_i h
    induction fs with
    | nil => cases h
    | cons p r ih =>
      obtain ⟨k, u⟩ := p
      rw [List.map_cons]
      by_cases hk : k = n
      · subst hk
        simp only [if_true]
        rw [List.lookup_cons, List.lookup_cons]
        by_cases hy : y = k
        · subst hy; simp
        · have e : (y == k) = false := by simpa using hy
          rw [e]
          simp only [hy, if_false]
          clear h ih
          induction r with
          | nil => rfl
          | cons p r ih =>
            obtain ⟨k', u'⟩ := p
            rw [List.map_cons]
            by_cases hk' : k' = k
            · subst hk'
              simp only [if_true]
              rw [List.lookup_cons, List.lookup_cons, e]; exact ih
            · simp only [hk', if_false]
              rw [List.lookup_cons, List.lookup_cons]
              cases y == k' <;> simp [ih]
      · simp only [hk, if_false]
        rw [List.lookup_cons, List.lookup_cons]
        rw [List.lookup_cons] at h
        have hn' : (n == k) = false := by simpa using fun e => hk e.symm
        rw [hn'] at h
        cases e : y == k with
        | true =>
          have := beq_iff_eq.mp e; subst this
          simp [hk]
        | false => exact ih h
  · rename_i h
    rw [List.lookup_append]
    by_cases hy : y = n
    · subst hy
      have : fs.lookup y = none := by
        cases hl : fs.lookup y with
        | none => rfl
        | some z => rw [hl] at h; exact absurd rfl h
      rw [this]; simp
    · have e : (y == n) = false := by simpa using hy
      have : List.lookup y [(n, v)] = none := by rw [List.lookup_cons, e]; rfl
      rw [this]; simp [hy]
section
variable {α β : Type} {C : Cx} {A : Around} {E : Value → Shared → Prop} {f : Fm} {L : Loc} {H : AH} {a c d N : Addr} {fs : List (Str × Value)} {sl : List (Option Value)} {mN : Str → Option Value} {name : Str}

theorem inst_of {s : Shared} (R : Rel C H s) (ha : H a = some (.inst c d fs sl)) : ∃ mA, s.heap.Inst a c mA ∧ (∀ y, (mA y).map er = fs.lookup y) := by
  obtain ⟨o, mA, e, e1, e2, e3, e4, e5, e6, e7⟩ := R.rep a _ ha
  exact ⟨mA, ⟨o, e, e1, e2, .inr ⟨d, e3, e4, e5⟩⟩, e6⟩
theorem P1.attr {x : Value} {Q : Value → AH → Prop} (K : Cls C c N mN) (ha : H a = some (.inst c d fs sl)) (hx : fs.lookup name = some x) (hp : handed x = true) (hna : mN name = none) (hB : typeLookup (.type "object") name = pure none)
    (h : ∀ v, er v = x → Q v H) : P1 C A E (fun o => getAttr o name true) (.ref a) H Q := by
  intro a' ea s R
  have e := er_ref ea; subst e
  obtain ⟨mA, I, hm⟩ := inst_of R ha
  obtain ⟨v, e1, e2⟩ := map_some_er ((hm name).trans hx)
  obtain ⟨nm, q, bs, sn, sub, ab, col, dd, k0, k1, k2, k3, k5, newId, hC⟩ := K.obj
  obtain ⟨hh, g, dr, t, os⟩ := s
  have hh' : handedOut v = pure v := by
    cases v <;> first | rfl | (subst e2; cases hp)
  exact load_attr (R.keep _ _ hC) (K.ns.keeps R.keep) K.ga hna hB I e1 hh' (still R (h v e2))
theorem MethP.inst {fa : Addr} {of : Obj} {y : Option Value} {Q : Value → List Value → AH → Prop} (K : Cls C c N mN) (ha : H a = some (.inst c d fs sl)) (hf : mN name = some (.ref fa)) (hfo : C.h₀.get? fa = some of) (hfc : of.cls = .type "function")
    (hB : typeLookup (.type "object") name = pure y) (hx : fs.lookup name = none) (h : Q (.ref fa) [.ref a] H) : MethP C A E (.ref a) name H Q := by
  intro a' pl ea s R
  have e := er_ref ea; subst e
  obtain ⟨mA, I, hm⟩ := inst_of R ha
  obtain ⟨nm, q, bs, sn, sub, ab, col, dd, k0, k1, k2, k3, k5, newId, hC⟩ := K.obj
  obtain ⟨hh, g, dr, t, os⟩ := s
  have hsh : mA name = none := by
    have := hm name; rw [hx] at this; simpa using this
  exact method_of (R.keep _ _ hC) (K.ns.keeps R.keep) K.ga K.gt hf (R.keep _ _ hfo) hfc hB I hsh (stay R h)

theorem Rel.setInst {s : Shared} {h' : Heap} {tk : Nat} {fs' : List (Str × Value)} {sl' : List (Option Value)} (R : Rel C H s) (ha : H a = some (.inst c d fs sl)) (hk : ∀ b x, b ≠ a → b ≠ d → s.heap.get? b = some x → h'.get? b = some x)
    (hr : Rep C h' a (.inst c d fs' sl')) (hd : ∃ x, h'.get? d = some x) :
    Rel C (upd H a (.inst c d fs' sl')) { s with heap := h', toks := tk } ∧ Kept C.fr [] H (upd H a (.inst c d fs' sl')) s.heap h' := by
  have hda := R.hid a c d fs sl ha
  have low : ∀ b o, H b = some o → (∀ xs, o ≠ .blist xs) → C.h₀.get? b = none ∧ b ≠ sysModules := by
    intro b o e hn
    rcases R.low b o e with h | ⟨xs, rfl⟩
    · exact h
    · exact absurd rfl (hn xs)
  have ha0 := low a _ ha (by simp)
  have hd0 := low d _ hda (by simp)
  have hne : d ≠ a := by obtain ⟨o, mA, e, e1, e2, e3, e4, _⟩ := R.rep a _ ha; exact e4
  refine ⟨⟨fun b x e => hk b x (by first | exact no_some (ha0.1) e | exact (no_some (ha0.1) e).symm | exact no_some e (ha0.1) | exact (no_some e (ha0.1)).symm | exact two_ne (ha0.1) e (by intro q; cases q; done) | exact (two_ne (ha0.1) e (by intro q; cases q; done)).symm | (rintro rfl; rw [ha0.1] at e; cases e)) (by first | exact no_some (hd0.1) e | exact (no_some (hd0.1) e).symm | exact no_some e (hd0.1) | exact (no_some e (hd0.1)).symm | exact two_ne (hd0.1) e (by intro q; cases q; done) | exact (two_ne (hd0.1) e (by intro q; cases q; done)).symm | (rintro rfl; rw [hd0.1] at e; cases e)) (R.keep b x e), fun b x e => ?_, fun b x e => ?_, fun b c' d' fs'' sl'' e => ?_, fun l' hl' => ?_⟩, .mk fun b x e q _ => ⟨hk b x (by first | exact no_some (ha) q | exact (no_some (ha) q).symm | exact no_some q (ha) | exact (no_some q (ha)).symm | exact two_ne (ha) q (by intro q; cases q; done) | exact (two_ne (ha) q (by intro q; cases q; done)).symm | (rintro rfl; rw [ha] at q; cases q)) (by first | exact no_some (hda) q | exact (no_some (hda) q).symm | exact no_some q (hda) | exact (no_some q (hda)).symm | exact two_ne (hda) q (by intro q; cases q; done) | exact (two_ne (hda) q (by intro q; cases q; done)).symm | (rintro rfl; rw [hda] at q; cases q)) e, ?_⟩⟩
  · unfold upd at e
    split at e
    · rename_i hb; subst hb; cases e; exact hr
    · rename_i hb
      by_cases hbd : b = d
      · subst hbd
        rw [hda] at e; cases e
        exact hd
      · refine (R.rep b x e).at fun c' hc y hy => hk c' y ?_ ?_ hy
        · rintro rfl
          cases x with
          | inst c2 d2 fs2 sl2 =>
            simp only [AO.foot, List.mem_cons, List.not_mem_nil, or_false] at hc
            rcases hc with rfl | rfl
            · exact hb rfl
            · have := R.hid b c2 _ fs2 sl2 e
              rw [ha] at this; cases this
          | _ => simp only [AO.foot, List.mem_singleton] at hc; exact hb hc.symm
        · rintro rfl
          cases x with
          | inst c2 d2 fs2 sl2 =>
            simp only [AO.foot, List.mem_cons, List.not_mem_nil, or_false] at hc
            rcases hc with rfl | rfl
            · exact hbd rfl
            · have := R.hid b c2 _ fs2 sl2 e
              rw [hda] at this; cases this; exact hb rfl
          | _ => simp only [AO.foot, List.mem_singleton] at hc; exact hbd hc.symm
  · unfold upd at e
    split at e
    · rename_i hb; subst hb; exact .inl ha0
    · exact R.low b x e
  · unfold upd at e
    split at e
    · rename_i hb; subst hb; cases e
      rw [upd_ne _ _ hne]; exact hda
    · rename_i hb
      have := R.hid b c' d' fs'' sl'' e
      rw [upd_ne _ _ (by first | exact no_some (ha) this | exact (no_some (ha) this).symm | exact no_some this (ha) | exact (no_some this (ha)).symm | exact two_ne (ha) this (by intro q; cases q; done) | exact (two_ne (ha) this (by intro q; cases q; done)).symm | (rintro rfl; rw [ha] at this; cases this))]; exact this
  · obtain ⟨⟨x, e, nd⟩, q1, q2⟩ := R.live l' hl'
    have hne1 : l' ≠ a := by first | exact no_some (ha) q1 | exact (no_some (ha) q1).symm | exact no_some q1 (ha) | exact (no_some q1 (ha)).symm | exact two_ne (ha) q1 (by intro q; cases q; done) | exact (two_ne (ha) q1 (by intro q; cases q; done)).symm | (rintro rfl; rw [ha] at q1; cases q1)
    have hne2 : l' ≠ d := by first | exact no_some (hda) q1 | exact (no_some (hda) q1).symm | exact no_some q1 (hda) | exact (no_some q1 (hda)).symm | exact two_ne (hda) q1 (by intro q; cases q; done) | exact (two_ne (hda) q1 (by intro q; cases q; done)).symm | (rintro rfl; rw [hda] at q1; cases q1)
    exact ⟨⟨x, hk l' x hne1 hne2 e, nd⟩, by rw [upd_ne _ _ hne1]; exact q1, q2⟩
  · rw [upd_ne _ _ (by first | exact no_some (ha) q | exact (no_some (ha) q).symm | exact no_some q (ha) | exact (no_some q (ha)).symm | exact two_ne (ha) q (by intro q; cases q; done) | exact (two_ne (ha) q (by intro q; cases q; done)).symm | (rintro rfl; rw [ha] at q; cases q))]; exact q

theorem Rel.setInstL {s : Shared} {l : Addr} {h' : Heap} {tk : Nat} {fs' : List (Str × Value)} {sl' : List (Option Value)} (R : Rel C H s) (ha : H a = some (.inst c d fs sl)) (hl : H l = none) (hl0 : C.h₀.get? l = none) (hlal : ∃ x, h'.get? l = some x ∧ ∀ vs, x.data ≠ .fields vs) (hk : ∀ b x, b ≠ a → b ≠ d → b ≠ l → s.heap.get? b = some x → h'.get? b = some x)
    (hr : Rep C h' a (.inst c d fs' sl')) (hd : ∃ x, h'.get? d = some x) :
    Rel C (upd H a (.inst c d fs' sl')) { s with heap := h', toks := tk } ∧ Kept C.fr [l] H (upd H a (.inst c d fs' sl')) s.heap h' := by
  have hda := R.hid a c d fs sl ha
  have low : ∀ b o, H b = some o → (∀ xs, o ≠ .blist xs) → C.h₀.get? b = none ∧ b ≠ sysModules := by
    intro b o e hn
    rcases R.low b o e with h | ⟨xs, rfl⟩
    · exact h
    · exact absurd rfl (hn xs)
  have ha0 := low a _ ha (by simp)
  have hd0 := low d _ hda (by simp)
  have hne : d ≠ a := by obtain ⟨o, mA, e, e1, e2, e3, e4, _⟩ := R.rep a _ ha; exact e4
  refine ⟨⟨fun b x e => hk b x (by first | exact no_some (ha0.1) e | exact (no_some (ha0.1) e).symm | exact no_some e (ha0.1) | exact (no_some e (ha0.1)).symm | exact two_ne (ha0.1) e (by intro q; cases q; done) | exact (two_ne (ha0.1) e (by intro q; cases q; done)).symm | (rintro rfl; rw [ha0.1] at e; cases e)) (by first | exact no_some (hd0.1) e | exact (no_some (hd0.1) e).symm | exact no_some e (hd0.1) | exact (no_some e (hd0.1)).symm | exact two_ne (hd0.1) e (by intro q; cases q; done) | exact (two_ne (hd0.1) e (by intro q; cases q; done)).symm | (rintro rfl; rw [hd0.1] at e; cases e)) (by first | exact no_some (hl0) e | exact (no_some (hl0) e).symm | exact no_some e (hl0) | exact (no_some e (hl0)).symm | exact two_ne (hl0) e (by intro q; cases q; done) | exact (two_ne (hl0) e (by intro q; cases q; done)).symm | (rintro rfl; rw [hl0] at e; cases e)) (R.keep b x e), fun b x e => ?_, fun b x e => ?_, fun b c' d' fs'' sl'' e => ?_, fun l' hl' => ?_⟩, .mk fun b x e q hn => ⟨hk b x (by first | exact no_some (ha) q | exact (no_some (ha) q).symm | exact no_some q (ha) | exact (no_some q (ha)).symm | exact two_ne (ha) q (by intro q; cases q; done) | exact (two_ne (ha) q (by intro q; cases q; done)).symm | (rintro rfl; rw [ha] at q; cases q)) (by first | exact no_some (hda) q | exact (no_some (hda) q).symm | exact no_some q (hda) | exact (no_some q (hda)).symm | exact two_ne (hda) q (by intro q; cases q; done) | exact (two_ne (hda) q (by intro q; cases q; done)).symm | (rintro rfl; rw [hda] at q; cases q)) (by rintro rfl; exact hn (by simp)) e, ?_⟩⟩
  · unfold upd at e
    split at e
    · rename_i hb; subst hb; cases e; exact hr
    · rename_i hb
      by_cases hbd : b = d
      · subst hbd
        rw [hda] at e; cases e
        exact hd
      · refine (R.rep b x e).at fun c' hc y hy => hk c' y ?_ ?_ ?_ hy
        · rintro rfl
          cases x with
          | inst c2 d2 fs2 sl2 =>
            simp only [AO.foot, List.mem_cons, List.not_mem_nil, or_false] at hc
            rcases hc with rfl | rfl
            · exact hb rfl
            · have := R.hid b c2 _ fs2 sl2 e
              rw [ha] at this; cases this
          | _ => simp only [AO.foot, List.mem_singleton] at hc; exact hb hc.symm
        · rintro rfl
          cases x with
          | inst c2 d2 fs2 sl2 =>
            simp only [AO.foot, List.mem_cons, List.not_mem_nil, or_false] at hc
            rcases hc with rfl | rfl
            · exact hbd rfl
            · have := R.hid b c2 _ fs2 sl2 e
              rw [hda] at this; cases this; exact hb rfl
          | _ => simp only [AO.foot, List.mem_singleton] at hc; exact hbd hc.symm
        · rintro rfl
          cases x with
          | inst c2 d2 fs2 sl2 =>
            simp only [AO.foot, List.mem_cons, List.not_mem_nil, or_false] at hc
            rcases hc with rfl | rfl
            · rw [e] at hl; cases hl
            · have := R.hid b c2 _ fs2 sl2 e
              rw [hl] at this; cases this
          | _ => simp only [AO.foot, List.mem_singleton] at hc; subst hc; rw [e] at hl; cases hl
  · unfold upd at e
    split at e
    · rename_i hb; subst hb; exact .inl ha0
    · exact R.low b x e
  · unfold upd at e
    split at e
    · rename_i hb; subst hb; cases e
      rw [upd_ne _ _ hne]; exact hda
    · rename_i hb
      have := R.hid b c' d' fs'' sl'' e
      rw [upd_ne _ _ (by first | exact no_some (ha) this | exact (no_some (ha) this).symm | exact no_some this (ha) | exact (no_some this (ha)).symm | exact two_ne (ha) this (by intro q; cases q; done) | exact (two_ne (ha) this (by intro q; cases q; done)).symm | (rintro rfl; rw [ha] at this; cases this))]; exact this
  · obtain ⟨⟨x, e, nd⟩, q1, q2⟩ := R.live l' hl'
    have hne1 : l' ≠ a := by first | exact no_some (ha) q1 | exact (no_some (ha) q1).symm | exact no_some q1 (ha) | exact (no_some q1 (ha)).symm | exact two_ne (ha) q1 (by intro q; cases q; done) | exact (two_ne (ha) q1 (by intro q; cases q; done)).symm | (rintro rfl; rw [ha] at q1; cases q1)
    have hne2 : l' ≠ d := by first | exact no_some (hda) q1 | exact (no_some (hda) q1).symm | exact no_some q1 (hda) | exact (no_some q1 (hda)).symm | exact two_ne (hda) q1 (by intro q; cases q; done) | exact (two_ne (hda) q1 (by intro q; cases q; done)).symm | (rintro rfl; rw [hda] at q1; cases q1)
    by_cases h3 : l' = l
    · subst h3; exact ⟨hlal, by rw [upd_ne _ _ hne1]; exact q1, q2⟩
    · exact ⟨⟨x, hk l' x hne1 hne2 h3 e, nd⟩, by rw [upd_ne _ _ hne1]; exact q1, q2⟩
  · rw [upd_ne _ _ (by first | exact no_some (ha) q | exact (no_some (ha) q).symm | exact no_some q (ha) | exact (no_some q (ha)).symm | exact two_ne (ha) q (by intro q; cases q; done) | exact (two_ne (ha) q (by intro q; cases q; done)).symm | (rintro rfl; rw [ha] at q; cases q))]; exact q

theorem setAttr_inst {v : Value} {Q : Unit → Loc → AH → Prop} (K : Cls C c N mN) (ha : H a = some (.inst c d fs sl)) (hna : mN name = none) (hB : typeLookup (.type "object") name = pure none) (hsz : fs.length ≤ 1000)
    (h : Q () L (upd H a (.inst c d (putF fs name (er v)) sl))) : TW C A E f (setAttr (.ref a) name v) L H Q := by
  refine TW.of_PW fun s R => ?_
  refine hideG fun G hG => ?_
  obtain ⟨o, mA, e, e1, e2, e3, e4, e5, e6, e7⟩ := R.rep a _ ha
  obtain ⟨nm, q, bs, sn, sub, ab, col, dd, k0, k1, k2, k3, k5, newId, hC⟩ := K.obj
  refine hG ?_
  obtain ⟨hh, g, dr, t, os⟩ := s
  have hne : a ≠ c := by
    rintro rfl
    rcases R.low a _ ha with h | ⟨xs, h⟩
    · rw [h.1] at hC; cases hC
    · cases h
  have I : hh.Inst a c mA := ⟨o, e, e1, e2, .inr ⟨d, e3, e4, e5⟩⟩
  refine store_attr (ns := fs.map (·.1)) PySem.F.store_object (R.keep _ _ hC) (K.ns.keeps R.keep) K.st hna hB hne I (fun h' tk' I' hk hx => ?_) (fun y hy => ?_) (by simp; exact Nat.le_trans hsz (by decide))
  · refine hideG fun G hG => ?_
    obtain ⟨o1, g1, g2, g3, g4, g5⟩ := hx o e
    have hd1 := g5 d e3
    obtain ⟨o2, f1, f2, f3, f4⟩ := I'
    rw [g1] at f1; cases f1
    rcases f4 with ⟨f5, _⟩ | ⟨d2, f5, f6, f7⟩
    · rw [hd1] at f5; cases f5
    · rw [hd1] at f5; cases f5
      have hr : Rep C h' a (.inst c d (putF fs name (er v)) sl) := by
        refine ⟨o1, _, g1, f2, f3, hd1, f6, f7, fun y => ?_, by rw [g4]; exact e7⟩
        rw [putF_lookup]
        by_cases hy : y = name
        · simp [hy]
        · simp only [hy, if_false]; exact e6 y
      have hdx : ∃ x, h'.get? d = some x := by obtain ⟨x, es, ep, hx, _⟩ := f7; exact ⟨x, hx⟩
      obtain ⟨R', k⟩ := R.setInst (tk := tk') ha (fun b x hb hbd e' => hk b x hb (by
        intro o0 dx q1 q2
        rw [e] at q1; cases q1; rw [e3] at q2; cases q2; exact hbd) e') hr hdx
      exact hG ⟨_, R', k, ⟨rfl, rfl⟩, h⟩
  · have : (fs.lookup y).isSome = true := by
      rw [← e6 y]
      cases hm : mA y with
      | none => exact absurd hm hy
      | some z => rfl
    obtain ⟨z, hz⟩ := Option.isSome_iff_exists.mp this
    exact List.mem_map.mpr ⟨(y, z), mem_of_lookup hz, rfl⟩
end

set_option tactic.hygienic true in
theorem ledger (h : Heap) (L : Addr) : ∃ news : List (Addr × Obj), News {} L h news ∧ (∀ b o, b ≠ L → h.get? b = some o → (b, o) ∈ news) ∧ (news.map (·.1)).Nodup := by
  refine ⟨(List.range h.objs.size).filterMap fun a => if a = L then none else (h.get? a).map fun o => (a, o), ?_, ?_, ?_⟩
  · intro p hp
    obtain ⟨a, ha, e⟩ := List.mem_filterMap.mp hp
    split at e
    · cases e
    · rename_i hne
      cases g : h.get? a with
      | none => rw [g] at e; cases e
      | some o => rw [g] at e; cases e; exact ⟨g, hne, rfl⟩
  · intro b o hb e
    refine List.mem_filterMap.mpr ⟨b, List.mem_range.mpr (Heap.lt_size e), ?_⟩
    rw [if_neg hb, e]; rfl
  · have key : ∀ l : List Nat, l.Nodup → ((l.filterMap fun a => if a = L then none else (h.get? a).map fun o => (a, o)).map (·.1)).Nodup := by
      intro l
      induction l with
      | nil => intro _; exact List.nodup_nil
      | cons x r ih =>
        intro hn
        rw [List.nodup_cons] at hn
        rw [List.filterMap_cons]
        split
        · exact ih hn.2
        · rename_i p hp
          rw [List.map_cons, List.nodup_cons]
          refine ⟨fun hm => ?_, ih hn.2⟩
          obtain ⟨q, hq, eq⟩ := List.mem_map.mp hm
          obtain ⟨y, hy, ey⟩ := List.mem_filterMap.mp hq
          have h1 : p.1 = x := by
            split at hp
            · cases hp
            · obtain ⟨o, _, rfl⟩ := Option.map_eq_some_iff.mp hp; rfl
          have h2 : q.1 = y := by
            split at ey
            · cases ey
            · obtain ⟨o, _, rfl⟩ := Option.map_eq_some_iff.mp ey; rfl
          rw [h1, h2] at eq
          exact hn.1 (eq ▸ hy)
    exact key _ List.nodup_range
theorem split_at {news : List (Addr × Obj)} {x : Addr} {o : Obj} (hm : (x, o) ∈ news) (hn : (news.map (·.1)).Nodup) : ∃ pre post, news = pre ++ (x, o) :: post ∧ (∀ p ∈ pre, p.1 ≠ x) ∧ ∀ p ∈ post, p.1 ≠ x := by
  obtain ⟨pre, post, rfl⟩ := List.append_of_mem hm
  rw [List.map_append, List.map_cons, List.nodup_append] at hn
  obtain ⟨_, h2, h3⟩ := hn
  rw [List.nodup_cons] at h2
  refine ⟨pre, post, rfl, fun p hp e => ?_, fun p hp e => ?_⟩
  · exact h3 p.1 (List.mem_map.mpr ⟨p, hp, rfl⟩) x List.mem_cons_self e
  · exact h2.1 (e ▸ List.mem_map.mpr ⟨p, hp, rfl⟩)
section
variable {α β : Type} {C : Cx} {A : Around} {E : Value → Shared → Prop} {f : Fm} {L : Loc} {H : AH} {a c d N : Addr} {fs : List (Str × Value)} {sl : List (Option Value)} {mN : Str → Option Value} {name : Str}

set_option tactic.hygienic true in
theorem instAt {s : Shared} (R : Rel C H s) (ha : H a = some (.inst c d fs sl)) : ∃ ox od, InstAt s.heap a ox c (some od) ∧ ox.dict = some d ∧ ox.slots.toList.map (Option.map er) = sl ∧ (∀ c', ox.data ≠ .cls c') := by
  obtain ⟨o, mA, e, e1, e2, e3, e4, e5, e6, e7⟩ := R.rep a _ ha
  obtain ⟨od, es, ep, ed, _⟩ := id e5
  refine ⟨o, od, ⟨e, e1, ?_, by rw [e3]; exact ed⟩, e3, e7, e2⟩
  unfold notCls
  split
  · rename_i c' hc; exact absurd hc (e2 c')
  · rfl
theorem P1.slot {p i : Nat} {x : Value} {Q : Value → AH → Prop} (O : C.Ok) (ha : H a = some (.inst c d fs sl)) (hga : findIn C.K (.ref c) "__getattribute__" = some (some (.builtin "object.__getattribute__"))) (hgt : findIn C.K (.ref c) "__getattr__" = some none)
    (hf : ∀ od, findObj C.K c od name = some (.bind (.builtin "member_descriptor.__get__") (.ref p))) (hp : slotIn C.K p c = some i) (hx : sl[i]? = some (some x)) (hh : handed x = true) (h : ∀ v, er v = x → Q v H) :
    P1 C A E (fun o => getAttr o name true) (.ref a) H Q := by
  intro a' ea s R
  have e := er_ref ea; subst e
  obtain ⟨ox, od, I, e3, e7, _⟩ := instAt R ha
  have X := O.kin.keeps R.keep
  obtain ⟨v, hv, ev⟩ : ∃ v, (ox.slots[i]?).join = some v ∧ er v = x := by
    rw [← e7, List.getElem?_map] at hx
    cases g : ox.slots.toList[i]? with
    | none => rw [g] at hx; cases hx
    | some y =>
      rw [g] at hx
      cases y with
      | none => cases hx
      | some v =>
        refine ⟨v, ?_, by simpa using hx⟩
        have : ox.slots[i]? = some (some v) := by simpa using g
        rw [this]; rfl
  refine get_bind X I hga (hf _) hgt (wpAny_call (slot_get (s := { s with toks := s.toks + 1 }) X I hp hv ?_))
  have hh' : handedOut v = pure v := by
    cases v <;> first | rfl | (subst ev; cases hh)
  dsimp only
  rw [hh']
  exact wpAny_pure (still R (h v ev))

noncomputable def putS (sl : List (Option Value)) (i : Nat) (v : Value) : List (Option Value) := (sl ++ List.replicate (i + 1 - sl.length) none).set i (some v)
set_option tactic.hygienic true in
theorem setAttr_slot {p i : Nat} {v : Value} {Q : Unit → Loc → AH → Prop} (O : C.Ok) (how : f.env.locals ∈ f.ow) (ha : H a = some (.inst c d fs sl)) (hs : findIn C.K (.ref c) "__setattr__" = some (some (.builtin "object.__setattr__")))
    (hpo : plainOver C.K c = true) (ht : takerIn C.K c name = some (some (.ref p))) (hT : typeIn C.K (.ref p) = some (.type "member_descriptor")) (hp : slotIn C.K p c = some i) (hi : i < 1000)
    (h : Q () L (upd H a (.inst c d fs (putS sl i (er v))))) : TW C A E f (setAttr (.ref a) name v) L H Q := by
  intro s R F
  refine hideG fun G hG => ?_
  obtain ⟨o, mA, e, e1, e2, e3, e4, e5, e6, e7⟩ := R.rep a _ ha
  obtain ⟨ox, od, I, q3, q7, q8⟩ := instAt R ha
  have hox : ox = o := by have := I.at_; rw [e] at this; cases this; rfl
  subst hox
  have X := O.kin.keeps R.keep
  obtain ⟨m, hn, hl⟩ := F.ns
  have haL : a ≠ f.env.locals := by
    intro e'
    have := F.off.1
    rw [← e', ha] at this; cases this
  obtain ⟨news, N, hall, hnd⟩ := ledger s.heap f.env.locals
  obtain ⟨pre, post, hnews, hp1, hp2⟩ := split_at (hall a ox haL e) hnd
  subst hnews
  refine hG ?_
  refine set_plain X I hs (osa_descr (s := { s with toks := s.toks + 1 }) KF.slot_mset X I hpo ht hT ?_)
  have Fr0 : Fr {} f.env.locals s.heap m := ⟨hn, fun b o e => (nomatch e), Nat.zero_le _⟩
  refine slot_set (s := { s with toks := s.toks + 1 }) (ox' := { ox with slots := (ox.slots ++ Array.replicate (i + 1 - ox.slots.size) none).setIfInBounds i (some v) }) Fr0 N X I hp hi hp1 hp2 rfl ?_ fun h' F' N' => ?_
  · unfold Obj.isFreed
    have hal : s.heap.get? a = some ox := e
    cases hd : ox.data with
    | freed =>
      unfold Heap.get? at hal
      split at hal
      · cases hal
      · rename_i hh
        exfalso
        obtain ⟨c0, d0, dt0, s0⟩ := ox
        dsimp only at hd
        subst hd
        exact hh _ _ _ hal
    | _ => rfl
  · have hk : ∀ b x, b ≠ a → b ≠ f.env.locals → s.heap.get? b = some x → h'.get? b = some x := by
      intro b x hb hbl ex
      have hm := hall b x hbl ex
      refine (N' (b, x) ?_).1
      rcases List.mem_append.mp hm with hm | hm
      · exact List.mem_append.mpr (.inl hm)
      · rcases List.mem_cons.mp hm with hm | hm
        · cases hm; exact absurd rfl hb
        · exact List.mem_append.mpr (.inr (List.mem_cons_of_mem _ hm))
    have hao : h'.get? a = some { ox with slots := (ox.slots ++ Array.replicate (i + 1 - ox.slots.size) none).setIfInBounds i (some v) } := (N' _ (List.mem_append.mpr (.inr List.mem_cons_self))).1
    have hLd : f.env.locals ≠ d := by
      intro e'
      have h1 := F.off.1
      rw [e', R.hid a c d fs sl ha] at h1; cases h1
    have hr : Rep C h' a (.inst c d fs (putS sl i (er v))) := by
      refine ⟨_, mA, hao, e1, e2, e3, e4, e5.at fun o e => hk d o e4 hLd.symm e, e6, ?_⟩
      have hsz : ox.slots.size = sl.length := by have := congrArg List.length e7; simpa using this
      show ((ox.slots ++ Array.replicate (i + 1 - ox.slots.size) none).setIfInBounds i (some v)).toList.map (Option.map er) = putS sl i (er v)
      unfold putS
      rw [hsz]
      simp [List.map_set, e7]
    have hdx : ∃ x, h'.get? d = some x := by obtain ⟨x, es, ep, hx, _⟩ := e5; exact ⟨x, hk d x e4 hLd.symm hx⟩
    refine hideG fun G hG => ?_
    obtain ⟨R', k⟩ := R.setInstL (tk := s.toks + 1) ha F.off.1 F.low.1 (by obtain ⟨x, es, ep, hx, hdd, _⟩ := F'.ns; exact ⟨x, hx, fun vs q => by rw [hdd] at q; cases q⟩) (fun b x hb hbd hbl e' => hk b x hb hbl e') hr hdx
    refine hG ?_
    refine ⟨L, _, R', ?_, k.weak (fun b hb => by simp at hb; rw [hb]; exact how), ⟨rfl, rfl⟩, h⟩
    obtain ⟨kind, glob, _, cell, inj, apart, low, off, own⟩ := F
    have hH : ∀ b, H b = none → upd H a (.inst c d fs (putS sl i (er v))) b = none := by
      intro b hb
      rw [upd_ne _ _ (by first | exact no_some (ha) hb | exact (no_some (ha) hb).symm | exact no_some hb (ha) | exact (no_some hb (ha)).symm | exact two_ne (ha) hb (by intro q; cases q; done) | exact (two_ne (ha) hb (by intro q; cases q; done)).symm | (rintro rfl; rw [ha] at hb; cases hb))]; exact hb
    refine ⟨kind, glob, ⟨m, F'.ns, hl⟩, fun x hx => ?_, inj, apart, low, ⟨hH _ off.1, fun x c hx hc => hH _ (off.2 x c hx hc)⟩, own⟩
    obtain ⟨c', v', g1, ⟨o', g2, g3⟩, g4⟩ := cell x hx
    refine ⟨c', v', g1, ⟨o', hk c' o' ?_ (apart x c' hx g1) g2, g3⟩, g4⟩
    rintro rfl
    have := off.2 x _ hx g1
    rw [ha] at this; cases this
end

section
variable {α β : Type} {C : Cx} {A : Around} {E : Value → Shared → Prop} {f : Fm} {L : Loc} {H : AH} {a c d N : Addr} {fs : List (Str × Value)} {sl : List (Option Value)} {mN : Str → Option Value} {name : Str}

theorem Rel.newInst {s : Shared} (R : Rel C H s) (c : Addr) :
    Rel C (upd (upd H s.heap.objs.size (.hid (s.heap.objs.size + 1))) (s.heap.objs.size + 1) (.inst c s.heap.objs.size [] [])) { s with heap := (s.heap.push emptyDict).push (instObj c s.heap.objs.size) } ∧
    Kept C.fr [] H (upd (upd H s.heap.objs.size (.hid (s.heap.objs.size + 1))) (s.heap.objs.size + 1) (.inst c s.heap.objs.size [] [])) s.heap ((s.heap.push emptyDict).push (instObj c s.heap.objs.size)) := by
  have hsz : (s.heap.push emptyDict).objs.size = s.heap.objs.size + 1 := Heap.size_push ..
  have hdead : ∀ b, s.heap.objs.size ≤ b → s.heap.get? b = none := by
    intro b hb
    cases e : s.heap.get? b with
    | none => rfl
    | some o => exact absurd (Heap.lt_size e) (Nat.not_lt.mpr hb)
  have hD := R.dead (hdead s.heap.objs.size (Nat.le_refl _))
  have hA := R.dead (hdead (s.heap.objs.size + 1) (Nat.le_succ _))
  have hne : s.heap.objs.size ≠ s.heap.objs.size + 1 := by lia
  have hk : ∀ b x, s.heap.get? b = some x → ((s.heap.push emptyDict).push (instObj c s.heap.objs.size)).get? b = some x := fun b x e => Heap.get?_push_of_some _ (Heap.get?_push_of_some _ e)
  have gd : ((s.heap.push emptyDict).push (instObj c s.heap.objs.size)).get? s.heap.objs.size = some emptyDict := Heap.get?_push_of_some _ (Heap.get?_push_size _ rfl)
  have ga : ((s.heap.push emptyDict).push (instObj c s.heap.objs.size)).get? (s.heap.objs.size + 1) = some (instObj c s.heap.objs.size) := by
    rw [← hsz]; exact Heap.get?_push_size _ rfl
  refine ⟨⟨fun b x e => hk b x (R.keep b x e), fun b x e => ?_, fun b x e => ?_, fun b c' d' fs' sl' e => ?_, fun l hl => ?_⟩, .mk fun b x e q _ => ⟨hk b x e, ?_⟩⟩
  · by_cases h1 : b = s.heap.objs.size + 1
    · subst h1
      rw [upd_self] at e; cases e
      refine ⟨_, fun _ => none, ga, rfl, by simp, rfl, by lia, ?_, fun y => rfl, rfl⟩
      refine ⟨_, #[], 0, gd, rfl, fun _ he => by simp at he, ?_, fun _ => rfl⟩
      exact List.Pairwise.nil
    · rw [upd_ne _ _ h1] at e
      by_cases h2 : b = s.heap.objs.size
      · subst h2
        rw [upd_self] at e; cases e
        exact ⟨_, gd⟩
      · rw [upd_ne _ _ h2] at e
        exact (R.rep b x e).at fun c' _ y hy => hk c' y hy
  · by_cases h1 : b = s.heap.objs.size + 1
    · subst h1
      exact .inl ⟨hA.2, Nat.ne_of_gt (Nat.lt_succ_of_lt R.big)⟩
    · rw [upd_ne _ _ h1] at e
      by_cases h2 : b = s.heap.objs.size
      · subst h2
        exact .inl ⟨hD.2, Nat.ne_of_gt R.big⟩
      · rw [upd_ne _ _ h2] at e
        exact R.low b x e
  · by_cases h1 : b = s.heap.objs.size + 1
    · subst h1
      rw [upd_self] at e; cases e
      rw [upd_ne _ _ hne, upd_self]
    · rw [upd_ne _ _ h1] at e
      by_cases h2 : b = s.heap.objs.size
      · subst h2
        rw [upd_self] at e; cases e
      · rw [upd_ne _ _ h2] at e
        have := R.hid b c' d' fs' sl' e
        rw [upd_ne, upd_ne]
        · exact this
        · rintro rfl; rw [hD.1] at this; cases this
        · rintro rfl; rw [hA.1] at this; cases this
  · obtain ⟨⟨x, e, nd⟩, q1, q2⟩ := R.live l hl
    refine ⟨⟨x, hk l x e, nd⟩, ?_, q2⟩
    rw [upd_ne, upd_ne]
    · exact q1
    · rintro rfl; rw [hdead _ (Nat.le_refl _)] at e; cases e
    · rintro rfl; rw [hdead _ (Nat.le_succ _)] at e; cases e
  · rw [upd_ne, upd_ne]
    · exact q
    · rintro rfl; rw [hdead _ (Nat.le_refl _)] at e; cases e
    · rintro rfl; rw [hdead _ (Nat.le_succ _)] at e; cases e

theorem PC.make {fI : Addr} {args : List Value} {Q : Value → AH → Prop} (O : C.Ok) (hm : makesIn C.K c = true) (hi : findIn C.K (.ref c) "__init__" = some (some (.ref fI))) (hf : typeIn C.K (.ref fI) = some (.type "function"))
    (h : ∀ a d, H a = none → H d = none → a ≠ d → PC C (A.under (.builtin "type.__call__" ⟨.ref c :: args, []⟩)) (.call (.ref fI) ⟨.ref a :: args, []⟩) (upd (upd H d (.hid a)) a (.inst c d [] [])) fun v H' => v = .none ∧ Q (.ref a) H') :
    PC C A (.call (.ref c) ⟨args, []⟩) H Q := by
  intro s R
  have X := O.kin.keeps R.keep
  obtain ⟨R', k⟩ := R.newInst c
  have hdead : ∀ b, s.heap.objs.size ≤ b → s.heap.get? b = none := by
    intro b hb
    cases e : s.heap.get? b with
    | none => rfl
    | some o => exact absurd (Heap.lt_size e) (Nat.not_lt.mpr hb)
  have hh := h (s.heap.objs.size + 1) s.heap.objs.size (R.dead (hdead _ (Nat.le_succ _))).1 (R.dead (hdead _ (Nat.le_refl _))).1 (Nat.ne_of_gt (Nat.lt_succ_self _))
  obtain ⟨hp, g, dr, t, os⟩ := s
  refine make_core (init := .ref fI) (makes_of X hm) (looks_findIn X hi) (fun self => bind_fn X self hf) (.inl rfl) ?_
  refine codeAny_mono (hh _ R') ?_
  rintro r s' ⟨v, H', rfl, R2, k2, st2, hv, q⟩
  exact ⟨hv, _, H', rfl, R2, k.trans k2, ⟨st2.gens, st2.os⟩, q⟩
theorem CallP.make {fI : Addr} {args : List Value} {Q : Value → AH → Prop} (O : C.Ok) (hm : makesIn C.K c = true) (hi : findIn C.K (.ref c) "__init__" = some (some (.ref fI))) (hf : typeIn C.K (.ref fI) = some (.type "function"))
    (h : ∀ args', args'.map er = args → ∀ a d, H a = none → H d = none → a ≠ d → PC C (A.under (.builtin "type.__call__" ⟨.ref c :: args', []⟩)) (.call (.ref fI) ⟨.ref a :: args', []⟩) (upd (upd H d (.hid a)) a (.inst c d [] [])) fun v H' => v = .none ∧ Q (.ref a) H') :
    CallP C A E (.ref c) args H Q := by
  intro f' vs' ef ev
  rw [er_ref ef]
  exact PC.call (PC.make O hm hi hf fun a d ha hd hne => h vs' ev a d ha hd hne)

set_option tactic.hygienic true in
theorem P1.meth {fa : Addr} {Q : Value → AH → Prop} (O : C.Ok) (ha : H a = some (.inst c d fs sl)) (hga : findIn C.K (.ref c) "__getattribute__" = some (some (.builtin "object.__getattribute__"))) (hgt : findIn C.K (.ref c) "__getattr__" = some none)
    (hf : ∀ od, lookIn name od = some none → findObj C.K c (some od) name = some (.bind (.builtin "function.__get__") (.ref fa))) (hfn : typeIn C.K (.ref fa) = some (.type "function")) (hx : fs.lookup name = none)
    (h : ∀ r, H r = none → Q (.ref r) (upd H r (.obj (methodObj (.ref fa) (.ref a))))) : P1 C A E (fun o => getAttr o name true) (.ref a) H Q := by
  intro a' ea s R
  have e := er_ref ea; subst e
  obtain ⟨o, mA, e, e1, e2, e3, e4, e5, e6, e7⟩ := R.rep a _ ha
  obtain ⟨od, es, ep, ed, hdd, hk, hu, hm⟩ := id e5
  have X := O.kin.keeps R.keep
  have I : InstAt s.heap a o c (some od) := by
    refine ⟨e, e1, ?_, by rw [e3]; exact ed⟩
    unfold notCls
    split
    · rename_i c' hc; exact absurd hc (e2 c')
    · rfl
  have hl : lookIn name od = some none := by
    unfold lookIn
    rw [hdd]
    have h1 : mA name = none := by have := e6 name; rw [hx] at this; simpa using this
    have h2 : es.find? (fun e => e.key.isStr name) = none := by
      have := hm name
      rw [h1] at this
      unfold nsFind findBy at this
      simpa using this
    have h3 : es.toList.find? (fun e => e.key.isStr name) = none := by rw [Array.find?_toList]; exact h2
    dsimp only
    rw [h3]
    have h4 : es.toList.any (·.refKey) = false := by
      rw [List.any_eq_false]
      intro x hx
      obtain ⟨n, t, hk'⟩ := hk x (Array.mem_toList_iff.mp hx)
      simp [DictEntry.refKey, hk']
    rw [h4]; rfl
  refine get_bind X I hga (hf od hl) hgt (wpAny_call (fn_get (s := { s with toks := s.toks + 1 }) X hfn ?_))
  show wpAny _ _ (handedOut (.ref s.heap.objs.size)) _ _ _
  refine wpAny_pure ?_
  exact alloc_push (ao := .obj (methodObj (.ref fa) (.ref a))) R (Heap.get?_push_size _ rfl) rfl h
theorem KeepOk.meth (O : C.Ok) {m fa : Addr} {self : Value} (hm : H m = some (.obj (methodObj (.ref fa) self))) (hf : fnIn C.K fa = true) : KeepOk C (.ref m) H := by
  intro f' e s R
  rw [er_ref e]
  obtain ⟨k, _, h⟩ := keeps_M (M := model C.prog C.w) (self := self) hf s.heap ⟨R.rep m _ hm, O.kin.keeps R.keep⟩
  exact ⟨k, h⟩
theorem CallP.meth {m fa : Addr} {self : Value} {args : List Value} {Q : Value → AH → Prop} (hm : H m = some (.obj (methodObj (.ref fa) self)))
    (h : ∀ args', args'.map er = args → PC C A (.call (.ref fa) ⟨self :: args', []⟩) H fun v H' => Q (er v) H') : CallP C A E (.ref m) args H Q := by
  intro f' vs' ef ev
  rw [er_ref ef]
  refine PC.call fun s R => ?_
  exact method_call (R.rep m _ hm) (h vs' ev s R)
end

noncomputable def FrsOk (C : Cx) (l : List Env) : Prop := ∀ env ∈ l, env.scope.kind ≠ .module ∧ ∃ L ∈ C.fr, env.frame = some L
set_option genInjectivity false in
structure AIn (C : Cx) (A : Around) (k : Nat) : Prop where
  hd : A.handled = none
  dp : A.depth + k ≤ 900
  un : A.units + 10 * k ≤ 9000
  fr : ∃ l, A.frames = some l ∧ FrsOk C l
noncomputable def AF (C : Cx) (A : Around) (f : Fm) : Prop := ∃ outer, A.frames = some (f.env :: outer) ∧ FrsOk C outer ∧ f.env.frame = some f.env.locals ∧ f.env.locals ∈ C.fr
theorem Cx.Ok.push {C : Cx} {L : Addr} (O : C.Ok) : (C.push L).Ok := ⟨O.kin, O.g, O.b, O.lim, O.blt⟩
theorem AIn.le {C : Cx} {A : Around} {k j : Nat} (h : AIn C A k) (hj : j ≤ k) : AIn C A j := ⟨h.hd, by have := h.dp; lia, by have := h.un; lia, h.fr⟩
set_option genInjectivity false in
structure Frame (f : Fm) (names : List (Str × NameKind)) : Prop where
  kinds : ∀ x, f.env.kindOf x = names.lookup x
  loc : f.env.locals ∈ f.ow
  cell : ∀ x, names.lookup x = some .cell → ∀ c, f.env.cells.lookup x = some c → c ∈ f.ow
  kind : f.env.scope.kind = .function
noncomputable def locB (binds : List (Str × Value)) (L : Loc) : Loc := binds.foldl (fun L b => setL L b.1 b.2) L
noncomputable def noL : Loc := fun _ => none
theorem loc0_eq (binds : List (Str × Value)) : loc0 binds = locB (binds.map fun b => (b.1, er b.2)) noL := by
  have key : ∀ (binds : List (Str × Value)) (L : Loc), locB (binds.map fun b => (b.1, er b.2)) L = fun x => ((binds.reverse.lookup x).map er).or (L x) := by
    intro binds
    induction binds with
    | nil => intro L; funext x; simp [locB]
    | cons b r ih =>
      intro L
      obtain ⟨n, v⟩ := b
      show locB (r.map fun b => (b.1, er b.2)) (setL L n (er v)) = _
      rw [ih]
      funext x
      rw [List.reverse_cons, List.lookup_append]
      by_cases hx : x = n
      · subst hx
        cases r.reverse.lookup x <;> simp [setL]
      · have e : (x == n) = false := by simpa using hx
        have : List.lookup x [(n, v)] = none := by rw [List.lookup_cons, e]; rfl
        rw [this]
        simp [setL, hx]
  rw [key]
  funext x
  simp [loc0, noL]
section
variable {α β : Type} {C : Cx} {A : Around} {E : Value → Shared → Prop} {f : Fm} {L : Loc} {H : AH}

theorem frame_fn {fd : FuncData} {L fa : Addr} (hk : fd.scope.kind = .function) : Frame (fnFm fd L fa) fd.scope.names :=
  ⟨fun x => rfl, fnFm_loc, fun x hx => fnFm_cell hx, hk⟩

theorem PC.fnK {k : Nat} {fa : Addr} {oc : Value} {od : Option Addr} {osl : Array (Option Value)} {fd : FuncData} {body : List Stmt} {vals : List Value} {Q : Value → AH → Prop} (O : C.Ok) (hA : AIn C A (k + 1))
    (hl : C.K.lookup fa = some ⟨oc, od, .func fd, osl⟩) (hcd : codeIn C.K fd.code fd.qualname = true)
    (hbody : fd.body = .stmts body) (hclo : fd.closure = []) (hgl : fd.globals = mainGlobals) (hbi : fd.builtins = builtinsNs)
    (hfree : (fd.scope.names.all fun x => x.2 != .free) = true)
    (hco : fd.scope.isCoroutine = false) (hgen : fd.scope.isGenerator = false) (hk : fd.scope.kind = .function)
    (hb : PW C A.in1 nx (bindArgs fd ⟨vals, []⟩) H fun binds H1 => (binds.all fun x => kindOk fd x.1) = true ∧
      ∀ L f A', (C.push L).Ok → Frame f fd.scope.names → AIn (C.push L) A' k → AF (C.push L) A' f → SW (C.push L) A' nx f body (locB (binds.map fun b => (b.1, er b.2)) noL) H1 fun fl _ H2 => Q (er (retV fl)) H2) :
    PC C A (.call (.ref fa) ⟨vals, []⟩) H fun v H' => Q (er v) H' := by
  refine PC.fn (body := body) O (Nat.lt_of_le_of_lt (Nat.le_trans (Nat.le_add_right _ _) hA.dp) (by decide)) (O.kin _ _ hl) rfl (codeRec_of O.kin hcd) (hb.mono fun binds H1 q => ⟨q.1, fun L => ?_⟩) hbody hclo hgl hbi (fun x hx => ?_) hco hgen hk
  · rw [loc0_eq]
    obtain ⟨l, hl1, hl2⟩ := hA.fr
    refine q.2 L _ _ O.push (frame_fn hk) ⟨hA.hd, ?_, ?_, ⟨callEnvC fd L fa :: l, ?_, ?_⟩⟩ ⟨l, ?_, ?_, rfl, List.mem_cons_self⟩
    · show A.depth + 1 + k ≤ 900
      have := hA.dp; lia
    · show A.units + 3 + 10 * k ≤ 9000
      have := hA.un; lia
    · show A.frames.map (callEnvC fd L fa :: ·) = _
      rw [hl1]; rfl
    · intro env henv
      rcases List.mem_cons.mp henv with rfl | henv
      · refine ⟨?_, L, List.mem_cons_self, rfl⟩
        show fd.scope.kind ≠ .module
        rw [hk]; decide
      · obtain ⟨h1, L', h2, h3⟩ := hl2 env henv
        exact ⟨h1, L', List.mem_cons_of_mem _ h2, h3⟩
    · show A.frames.map (callEnvC fd L fa :: ·) = _
      rw [hl1]; rfl
    · intro env henv
      obtain ⟨h1, L', h2, h3⟩ := hl2 env henv
      exact ⟨h1, L', List.mem_cons_of_mem _ h2, h3⟩
  · have := List.all_eq_true.mp hfree x hx
    simpa using this
theorem PC.fnP {k : Nat} {fa : Addr} {oc : Value} {od : Option Addr} {osl : Array (Option Value)} {fd : FuncData} {body : List Stmt} {vals : List Value} {Q : Value → AH → Prop} (binds : List (Str × Value)) (O : C.Ok) (hA : AIn C A (k + 1))
    (hl : C.K.lookup fa = some ⟨oc, od, .func fd, osl⟩) (hcd : codeIn C.K fd.code fd.qualname = true)
    (hbody : fd.body = .stmts body) (hclo : fd.closure = []) (hgl : fd.globals = mainGlobals) (hbi : fd.builtins = builtinsNs)
    (hfree : (fd.scope.names.all fun x => x.2 != .free) = true)
    (hco : fd.scope.isCoroutine = false) (hgen : fd.scope.isGenerator = false) (hk : fd.scope.kind = .function)
    (hb : bindArgs fd ⟨vals, []⟩ = pure binds) (hbk : (binds.all fun x => kindOk fd x.1) = true)
    (h : ∀ L f A', (C.push L).Ok → Frame f fd.scope.names → AIn (C.push L) A' k → AF (C.push L) A' f → SW (C.push L) A' nx f body (locB (binds.map fun b => (b.1, er b.2)) noL) H fun fl _ H2 => Q (er (retV fl)) H2) :
    PC C A (.call (.ref fa) ⟨vals, []⟩) H fun v H' => Q (er v) H' :=
  PC.fnK O hA hl hcd hbody hclo hgl hbi hfree hco hgen hk (by rw [hb]; exact PW.pure ⟨hbk, h⟩)
theorem setL_same {L : Loc} {x : Str} {v : Value} : setL L x v x = some v := by simp [setL]
theorem setL_ne {L : Loc} {x y : Str} {v : Value} (h : y ≠ x) : setL L x v y = L y := by simp [setL, h]
theorem XW.expr' {e : Expr} {p : Pos} {Q : Flow → Loc → AH → Prop} (h : EW C A E f e L H fun v L1 H1 => Q .next L1 H1)
    (hs : swapsWith e none p.line f.env = pure false := by rfl) : XW C A E f (.Expr e p) L H Q := by
  intro s R F
  have hi : interactive f.env = false := by unfold interactive; rw [F.kind]; rfl
  exact XW.expr h hi hs s R F
end

noncomputable abbrev iterObj (l : Addr) (i : Nat) : Obj := { cls := .type "list_iterator", data := .fields #[.ref l, .int i 0] }
noncomputable abbrev wrapObj (it : Addr) : Obj := { cls := .type "method-wrapper", data := .fields #[.builtin "list_iterator.__next__", .ref it] }
theorem lx_ga : Slot "list_iterator" "__getattribute__" "object.__getattribute__" :=
  .of (owner := "object") (n := "__getattribute__") (by rw [typeLookup_type, builtinLookup_eq_fast]; kernel_rfl) (by decide +kernel) (by decide +kernel) (by decide +kernel)
    (by first | exact .inl (by decide +kernel) | exact .inr (by decide +kernel)) (by rw [isSubtype_type]; kernel_rfl)
theorem lx_gaentry : entryFor table "object.__getattribute__" = some Builtin.«object.__getattribute__» := entryFor_of_tree (by kernel_rfl)
theorem lx_gaargs (a b : Value) : argsOk "object.__getattribute__" ⟨[a, b], []⟩ := by unfold argsOk; kernel_rfl
theorem lx_type : typeOf (.builtin "list_iterator.__next__") = pure (.type "wrapper_descriptor") := by show builtinType _ = _; rw [builtinType_eq_fast]; kernel_rfl
theorem lx_get : Slot "wrapper_descriptor" "__get__" "wrapper_descriptor.__get__" :=
  .of (owner := "wrapper_descriptor") (n := "__get__") (by rw [typeLookup_type, builtinLookup_eq_fast]; kernel_rfl) (by decide +kernel) (by decide +kernel) (by decide +kernel)
    (by first | exact .inl (by decide +kernel) | exact .inr (by decide +kernel)) (by rw [isSubtype_type]; kernel_rfl)
theorem lx_getentry : entryFor table "wrapper_descriptor.__get__" = some Builtin.«wrapper_descriptor.__get__» := entryFor_of_tree (by kernel_rfl)
theorem lx_getargs (a b c : Value) : argsOk "wrapper_descriptor.__get__" ⟨[a, b, c], []⟩ := by unfold argsOk; kernel_rfl
theorem lx_set : typeLookup (.type "wrapper_descriptor") "__set__" = pure none := by rw [typeLookup_type, builtinLookup_eq_fast]; kernel_rfl
theorem lx_del : typeLookup (.type "wrapper_descriptor") "__delete__" = pure none := by rw [typeLookup_type, builtinLookup_eq_fast]; kernel_rfl
theorem lx_sub : isSubtype (.type "list_iterator") (.type "list_iterator") = pure true := by rw [isSubtype_type]; kernel_rfl
theorem lx_check (a : Addr) : checkBoundCall "list_iterator.__next__" ⟨[.ref a], []⟩ = pure () := by first | kernel_rfl | rfl
section
variable {α β : Type} {C : Cx} {A : Around} {E : Value → Shared → Prop} {f : Fm} {L : Loc} {H : AH}
theorem lx_run {M : Model} {it : Addr} {s : Shared} {P : Fin → Shared → Prop} (hT : s.TypeIs (.ref it) "list_iterator")
    (h : P (.done (.ret (.ref s.heap.objs.size))) { s with heap := s.heap.push (wrapObj it) }) :
    wpAny M A (Builtin.«wrapper_descriptor.__get__» ⟨[.builtin "list_iterator.__next__", .ref it, .type "list_iterator"], []⟩) P E s := by
  unfold Builtin.«wrapper_descriptor.__get__»
  refine wpAny_bind (wpAny_of_eq (a := (.builtin "list_iterator.__next__", some (.ref it), some (.type "list_iterator"))) (by first | rfl | kernel_rfl) ?_)
  refine wpAny_bind ?_
  refine wpAny_bind (wpAny_of_eq (a := (Str.ofString "__next__", .type "list_iterator")) (by first | rfl | kernel_rfl) ?_)
  refine wpAny_bind (wpAny_isInstance (b := true) hT lx_sub ?_)
  simp only [Bool.not_true, Bool.false_eq_true, if_false]
  refine wpAny_pure ?_
  exact wpAny_bind (wpAny_newObj_type (wpAny_pure h))
theorem attr_next {it l : Addr} {i : Nat} {s : Shared} {Q : Value → Shared → Prop} {prog : Program} {w : World} (ho : s.heap.get? it = some (iterObj l i))
    (h : Q (.ref s.heap.objs.size) { s with heap := s.heap.push (wrapObj it), toks := s.toks + 1 }) : wpAny (model prog w) A (getAttr (.ref it) "__next__" true) Q E s := by
  have hT : s.TypeIs (.ref it) "list_iterator" := ⟨_, ho, rfl⟩
  obtain ⟨hh, g, d, t, os⟩ := s
  unfold getAttr getAttrBy
  refine wpAny_bind (wpAny_mkText (wpAny_holding ?_))
  refine wpAny_bind (wpAny_typeOf hT ?_)
  refine wpAny_bind (wpAny_of_eq (a := some (.builtin "object.__getattribute__")) lx_ga.lookup ?_)
  show wpAny _ _ (getAttrByItsOwn _ _ _ _ _ _) _ _ _
  unfold getAttrByItsOwn hookBefore callGetattribute boundAndCalled
  refine wpAny_bind (wpAny_pure ?_)
  refine wpAny_bind (wpAny_attempt (wpAny_holding ?_))
  show wpAny _ _ (do let (g, first) ← bindSpecial (.builtin "object.__getattribute__") (.ref it); call g (first ++ [_])) _ _ _
  refine wpAny_bind (wpAny_of_eq (lx_ga.bind _) ?_)
  show wpAny _ _ (call (.builtin "object.__getattribute__") [.ref it, _]) _ _ _
  refine wpAny_call_entry lx_ga hT lx_gaentry ?_ (lx_gaargs _ _)
  unfold Builtin.«object.__getattribute__»
  refine wpAny_bind (wpAny_of_eq (a := (.ref it, [Value.str "__next__" t])) (by first | rfl | kernel_rfl) ?_)
  dsimp only
  refine wpAny_bind (wpAny_of_eq (a := Str.ofString "__next__") (by first | rfl | kernel_rfl) ?_)
  refine wpAny_bind (wpAny_typeOf hT ?_)
  unfold Builtin.ObjectAttr.find
  refine wpAny_bind (wpAny_bind (wpAny_of_eq slot_listiter_next.lookup ?_))
  have hsp : ∀ (nm : Str) (r : Option Value), typeLookup (.type "wrapper_descriptor") nm = pure r → specialOf (.builtin "list_iterator.__next__") nm = pure r := by
    intro nm r hr
    unfold specialOf
    rw [lx_type]
    exact hr
  have hg : Builtin.ObjectAttr.getOf (some (.builtin "list_iterator.__next__")) = pure (some (.builtin "wrapper_descriptor.__get__")) := hsp _ _ lx_get.lookup
  refine wpAny_bind (wpAny_of_eq hg ?_)
  have hdd : Builtin.ObjectAttr.dataDescriptor? (some (.builtin "list_iterator.__next__")) (some (.builtin "wrapper_descriptor.__get__")) = pure none := by
    show (do if ← Builtin.ObjectAttr.takesStores (.builtin "list_iterator.__next__") then pure (some (_, _)) else pure none) = pure none
    unfold Builtin.ObjectAttr.takesStores
    rw [hsp _ _ lx_set, hsp _ _ lx_del]; rfl
  refine wpAny_bind (wpAny_of_eq hdd ?_)
  show wpAny _ _ (Builtin.ObjectAttr.ownThenClass _ _ _ _) _ _ _
  unfold Builtin.ObjectAttr.ownThenClass Builtin.ObjectAttr.inOwnDict Builtin.ObjectAttr.ownDict instanceDict
  refine wpAny_bind (wpAny_bind (wpAny_bind ?_))
  dsimp only at ho
  refine wpAny_load (s := ⟨hh, g, d, t + 1, os⟩) ho ?_
  dsimp only [iterObj]
  refine wpAny_bind ?_
  refine wpAny_load (s := ⟨hh, g, d, t + 1, os⟩) ho ?_
  refine wpAny_pure ?_
  refine wpAny_pure ?_
  refine wpAny_bind (wpAny_pure ?_)
  refine wpAny_bind (wpAny_rule (wpAny_pure ?_))
  show wpAny _ _ (Builtin.ObjectAttr.bindTo (.builtin "wrapper_descriptor.__get__") (.builtin "list_iterator.__next__") (.ref it) (.type "list_iterator")) _ _ _
  unfold Builtin.ObjectAttr.bindTo
  refine wpAny_bind (wpAny_holding ?_)
  refine wpAny_call_entry (T := "wrapper_descriptor") lx_get lx_type lx_getentry ?_ (lx_getargs _ _ _)
  refine lx_run hT ?_
  exact ⟨_, rfl, wpAny_pure ⟨_, rfl, wpAny_pure h⟩⟩
theorem CallP.iterList {l : Addr} {xs : List Value} {Q : Value → AH → Prop} (hl : H l = some (.list xs)) (h : ∀ r, H r = none → Q (.ref r) (upd H r (.obj (iterObj l 0)))) : CallP C A E (.builtin "iter") [.ref l] H Q := by
  refine CallP.b1 fun v' ev s R => ?_
  have e := er_ref ev; subst e
  obtain ⟨vs, n, e, q⟩ := R.rep l _ hl
  refine call_function_entry (by decide +kernel) (by decide +kernel) kdk_entry_iter (kdk_args_iter _) ?_
  unfold Builtin.«iter»
  refine wpAny_bind (m := someArgs "iter" 1 2 _) (wpAny_of_eq (a := [Value.ref l]) (by first | rfl | kernel_rfl!) ?_)
  show wpAny _ _ (pyIter (.ref l) >>= _) _ _ _
  refine wpAny_bind (wpAny_pyIter_list ⟨_, e, rfl, n, rfl⟩ ?_)
  exact wpAny_pure ⟨_, rfl, alloc_push (tk := s.toks) (ao := .obj (iterObj l 0)) R (Heap.get?_push_size _ rfl) rfl h⟩
theorem P1.next {it l : Addr} {i : Nat} {Q : Value → AH → Prop} (hi : H it = some (.obj (iterObj l i))) (h : ∀ m, H m = none → Q (.ref m) (upd (upd H it (.liter l i)) m (.obj (wrapObj it)))) :
    P1 C A E (fun o => getAttr o "__next__" true) (.ref it) H Q := by
  intro a' ea s R
  have e := er_ref ea; subst e
  have e : s.heap.get? it = some (iterObj l i) := R.rep it _ hi
  refine attr_next e ?_
  obtain ⟨R1, k1⟩ := R.set (tk := s.toks) (o' := .liter l i) hi (h' := s.heap) (fun b x _ e => e) ⟨_, e, rfl, rfl⟩ rfl rfl
  have hne : it ≠ s.heap.objs.size := Nat.ne_of_lt (Heap.lt_size e)
  obtain ⟨R2, k2⟩ := R1.alloc (tk := s.toks + 1) (Mine.dead _) (fun b x e => Heap.get?_push_of_some _ e) (o := .obj (wrapObj it)) (h' := s.heap.push (wrapObj it)) (Heap.get?_push_size _ rfl) rfl
  exact ⟨_, R2, k1.trans k2, ⟨rfl, rfl⟩, h _ (R.dead (Mine.dead _)).1⟩
theorem call_wrap {m it l : Addr} {i : Nat} {items : Array Value} {s : Shared} {Q : Value → Shared → Prop} {prog : Program} {w : World} (hh : A.handled = none) (hm : s.heap.get? m = some (wrapObj it)) (hit : s.heap.IsListIter it l i) (hl : s.heap.IsList l items)
    (h1 : ∀ x, items[i]? = some x → ∀ h', h'.IsListIter it l (i + 1) → Heap.SameBut it s.heap h' → Q x { s with heap := h' })
    (h2 : items[i]? = none → ∀ h' e, (∃ oe tp, h'.get? e = some oe ∧ oe.cls = .type "StopIteration" ∧ oe.data = .fields tp ∧ tp[1]? = some .none) → s.heap.get? e = none → (∃ o, h'.get? it = some o) → (∀ b o, b ≠ it → s.heap.get? b = some o → h'.get? b = some o) → E (.ref e) { s with heap := h' }) :
    wpAny (model prog w) A (call (.ref m) []) Q E s := by
  refine wpAny_call (codeAny_of_tree ?_)
  show wpAny _ A.in1 (callAny (.ref m) ⟨[], []⟩) _ _ s
  unfold callAny
  refine wpAny_bind (wpAny_load hm ?_)
  dsimp only [wrapObj]
  refine KFB.if_so (by decide) ?_
  refine KFB.if_so (by decide) ?_
  refine wpAny_bind (wpAny_of_eq (a := ()) (lx_check it) ?_)
  refine wpAny_bind (wpAny_pure (wpAny_pure ?_))
  refine ⟨Code.quiet_builtin _ (by decide +kernel), codeAny_builtin entry_listiter_next ?_⟩
  generalize hA1 : A.under _ = A1
  have hh1 : A1.handled = none := by rw [← hA1]; exact hh
  clear hA1
  obtain ⟨o, ho, hc, hd⟩ := id hit
  obtain ⟨ol, hol, _, nl, hdl⟩ := id hl
  show wpAny _ _ (field (.ref it) 0 >>= _) _ _ s
  refine wpAny_bind (wpAny_field ho hd (x := .ref l) rfl ?_)
  show wpAny _ _ (if (Value.ref l == Value.none) = true then _ else _) _ _ s
  rw [if_neg (show ¬ ((Value.ref l == Value.none) = true) from Bool.false_ne_true)]
  show wpAny _ _ (field (.ref it) 1 >>= _) _ _ s
  refine wpAny_bind (wpAny_field ho hd (x := .int i 0) rfl ?_)
  show wpAny _ _ (seqItems? (.ref l) >>= _) _ _ s
  refine wpAny_bind (wpAny_seqItems hol hdl ?_)
  simp only [Int.toNat_natCast]
  cases hx : items[i]? with
  | some x =>
    dsimp only
    refine wpAny_bind (wpAny_setField ho hd (by simp) (wpAny_pure ?_))
    refine h1 x hx _ ?_ (Heap.SameBut.update ..)
    exact ⟨_, Heap.get?_update_self _ ho (Obj.isFreed_of_fields (Obj.data_mapFields hd _)), (Obj.cls_mapFields ..).trans hc, by
      rw [Obj.data_mapFields hd]; simp [rawInt]⟩
  | none =>
    dsimp only
    refine wpAny_bind (wpAny_rule (wpAny_bind (wpAny_setField ho hd (by simp) ?_)))
    show wpAny _ _ (newExc (.type "StopIteration") [] >>= _) _ _ _
    refine wpAny_bind ?_
    simp only [newExc, newTuple]
    refine wpAny_bind (wpAny_newObj_type ?_ (by size_fits))
    refine wpAny_bind (m := firstArgMember _ _) (wpAny_of_eq (a := Value.none) (by first | rfl | (simp only [firstArgMember]; rfl)) ?_)
    refine wpAny_newObj_type ?_ (by size_fits)
    simp only [raiseNew]
    refine wpAny_bind (wpAny_handled ?_)
    rw [hh1]
    refine wpAny_throw ?_
    have hsz : (s.heap.update it (Obj.mapFields fun x => x.setIfInBounds 0 Value.none)).objs.size = s.heap.objs.size := Heap.size_after_update ..
    have hk : ∀ b o, (s.heap.update it (Obj.mapFields fun x => x.setIfInBounds 0 Value.none)).get? b = some o → (((s.heap.update it (Obj.mapFields fun x => x.setIfInBounds 0 Value.none)).push { cls := Value.type "tuple", data := Data.seq #[] }).push { cls := Value.type "StopIteration", data := Data.fields (#[Value.ref (s.heap.update it (Obj.mapFields fun x => x.setIfInBounds 0 Value.none)).objs.size, Value.none, Value.none, Value.none, Value.bool false, Value.none] ++ ownMembersOf (Value.type "StopIteration") []) }).get? b = some o :=
      fun b o e => Heap.get?_push_of_some _ (Heap.get?_push_of_some _ e)
    refine h2 hx _ _ ⟨_, _, Heap.get?_push_size _ rfl, rfl, rfl, ?_⟩ ?_ ⟨_, hk _ _ (Heap.get?_update_self _ ho (Obj.isFreed_of_fields (Obj.data_mapFields hd _)))⟩ fun b o hb e => hk b o ((Heap.get?_update_other _ _ (Ne.symm hb)).trans e)
    · rw [Array.getElem?_append_left (by simp)]; rfl
    · cases e : s.heap.get? _ with
      | none => rfl
      | some o =>
        have := Heap.lt_size e
        rw [Heap.size_push, hsz] at this
        exact absurd this (Nat.not_lt.mpr (Nat.le_succ _))
end

noncomputable def butH (h : Heap) (ex : List Addr) : Heap := { h with objs := h.objs.mapIdx fun i o => if i ∈ ex then { o with data := .freed } else o }
theorem butH_get (h : Heap) (ex : List Addr) (a : Addr) : (butH h ex).get? a = if a ∈ ex then none else h.get? a := by
  unfold butH Heap.get?
  rw [Array.getElem?_mapIdx]
  cases e : h.objs[a]? with
  | none => simp
  | some o =>
    obtain ⟨c, d, dt, sl⟩ := o
    by_cases hx : a ∈ ex
    · simp [hx]
    · simp [hx]
section
variable {α β : Type} {C : Cx} {A : Around} {E : Value → Shared → Prop} {f : Fm} {L : Loc} {H : AH}

theorem fun_frames {h base : Heap} (hl : ∀ L ∈ C.fr, base.get? L = none ∧ ∃ o, h.get? L = some o ∧ ∀ vs, o.data ≠ .fields vs) : ∀ {l : List Env}, FrsOk C l → h.FunFrames base l
  | [], _ => trivial
  | env :: r, hf => by
    obtain ⟨h1, L, h2, h3⟩ := hf env List.mem_cons_self
    obtain ⟨q1, o, q2, q3⟩ := hl L h2
    exact ⟨h1, ⟨L, o, h3, q1, q2, q3⟩, fun_frames hl fun x hx => hf x (List.mem_cons_of_mem _ hx)⟩

set_option genInjectivity false in
structure Landed (C : Cx) (e : Addr) (h h' : Heap) : Prop where
  stays : (butH h (e :: C.fr)).StaysIn h'
  data : ∀ b o, h.get? b = some o → (∀ vs, o.data ≠ .fields vs) → ∃ o', h'.get? b = some o' ∧ o'.data = o.data
theorem Landed.at {e : Addr} {h h' : Heap} (l : Landed C e h h') {b : Addr} {o : Obj} (hb : h.get? b = some o) (h1 : b ≠ e) (h2 : b ∉ C.fr) : h'.get? b = some o :=
  l.stays b o (by rw [butH_get, if_neg (by simp [h1, h2])]; exact hb)
theorem Landed.rel {e : Addr} {s : Shared} {h' : Heap} {tk : Nat} (l : Landed C e s.heap h') (R : Rel C H s) (He : H e = none) (h0 : C.h₀.get? e = none) : Rel C H { s with heap := h', toks := tk } := by
  refine ⟨fun b o hb => l.at (R.keep b o hb) (by first | exact no_some (h0) hb | exact (no_some (h0) hb).symm | exact no_some hb (h0) | exact (no_some hb (h0)).symm | exact two_ne (h0) hb (by intro q; cases q; done) | exact (two_ne (h0) hb (by intro q; cases q; done)).symm | (rintro rfl; rw [h0] at hb; cases hb)) fun hm => ?_, fun a o ha => ?_, R.low, R.hid, fun x hx => ?_⟩
  · rw [(R.live b hm).2.2] at hb; cases hb
  · have key : ∀ b o', H b = some o' → ∀ x, s.heap.get? b = some x → h'.get? b = some x := by
      intro b o' hb x hx
      refine l.at hx (by first | exact no_some (He) hb | exact (no_some (He) hb).symm | exact no_some hb (He) | exact (no_some hb (He)).symm | exact two_ne (He) hb (by intro q; cases q; done) | exact (two_ne (He) hb (by intro q; cases q; done)).symm | (rintro rfl; rw [He] at hb; cases hb)) fun hm => ?_
      rw [(R.live b hm).2.1] at hb; cases hb
    refine (R.rep a o ha).at fun b hb x hx => ?_
    cases o with
    | inst c d fs sl =>
      simp only [AO.foot, List.mem_cons, List.not_mem_nil, or_false] at hb
      rcases hb with rfl | rfl
      · exact key _ _ ha x hx
      · exact key _ _ (R.hid _ _ _ _ _ ha) x hx
    | _ => simp only [AO.foot, List.mem_singleton] at hb; subst hb; exact key _ _ ha x hx
  · obtain ⟨⟨o, q1, q2⟩, q3⟩ := R.live x hx
    obtain ⟨o', g1, g2⟩ := l.data x o q1 q2
    exact ⟨⟨o', g1, fun vs => g2 ▸ q2 vs⟩, q3⟩
theorem Landed.frame {e : Addr} {h h' : Heap} (l : Landed C e h h') (F : FrOk C f L H h) : FrOk C f L H h' := by
  refine F.keepsAt fun a o ha Ha hm => ⟨?_, Ha⟩
  refine l.data a o ha ?_
  rcases hm with rfl | ⟨x, hx, hc⟩
  · obtain ⟨m, ⟨o', es, ep, e', hd, _⟩, _⟩ := F.ns
    rw [ha] at e'; cases e'
    intro vs q; rw [hd] at q; cases q
  · obtain ⟨c, v, e1, ⟨o', e2, e3⟩, _⟩ := F.cell x hx
    rw [hc] at e1; cases e1
    rw [ha] at e2; cases e2
    intro vs q; rw [e3] at q; cases q
theorem Landed.kept {ow : List Addr} {e : Addr} {s : Shared} {h' : Heap} (l : Landed C e s.heap h') (R : Rel C H s) : ∀ a o, a ≠ e → s.heap.get? a = some o → ∃ o', h'.get? a = some o' ∧ o'.data = o.data ∧ (a ∉ C.fr → o' = o) := by
  intro a o hne ha
  by_cases hm : a ∈ C.fr
  · obtain ⟨⟨o1, q1, q2⟩, q3⟩ := R.live a hm
    rw [ha] at q1; cases q1
    obtain ⟨o', g1, g2⟩ := l.data a o ha q2
    exact ⟨o', g1, g2, fun hn => absurd hm hn⟩
  · exact ⟨o, l.at ha hne hm, rfl, fun _ => rfl⟩

theorem caught {T : String} {e : Addr} {t : Expr} {b₀ : Stmt} {suite : List Stmt} {pos : Pos} {s : Shared} {Q : Flow → Shared → Prop} (hA : AF C A f) (R : Rel C H s) (F : FrOk C f L H s.heap)
    (He : H e = none) (h0 : C.h₀.get? e = none) (hx : ∃ oe vs, s.heap.get? e = some oe ∧ oe.cls = .type T ∧ oe.data = .fields vs ∧ vs[1]? = some .none)
    (hexc : isSubtype (.type T) (.type "BaseException") = pure true) (hnt : isSubtype (.type ((Manifest.find? T).elim "type" fun x => x.metatype)) (.type "tuple") = pure false) (hsub : isSubtype (.type T) (.type T) = pure true)
    (ht : ∀ A' E', EW C A' E' f t L H fun v L1 H1 => v = .type T ∧ L1 = L ∧ H1 = H)
    (h : ∀ A' E' s', Rel C H s' → FrOk C f L H s'.heap → (∀ a o, a ≠ e → s.heap.get? a = some o → H a = none → a ∉ f.ow → ∃ o', s'.heap.get? a = some o' ∧ o'.data = o.data ∧ (a ∉ C.fr → o' = o)) → Still s s' →
      wpAny (model C.prog C.w) A' (execs (b₀ :: suite) f.env) Q E' s') :
    wpAny (model C.prog C.w) A (noteFrame (.ref e) f.env) (fun _ s₂ => wpAny (model C.prog C.w) A (setFlight (.ref e) none) (fun _ s₃ =>
      wpAny (model C.prog C.w) A (handleBy (.ref e) f.env [.ExceptHandler (some t) none (b₀ :: suite) pos]) Q E s₃) E s₂) E s := by
  refine hideG fun G hG => ?_
  obtain ⟨outer, hfr, hout, hf, hlm⟩ := hA
  obtain ⟨oe, vs, he, hcls, hd, h1⟩ := hx
  have nfr : ∀ b o vs, s.heap.get? b = some o → o.data = .fields vs → b ∉ C.fr := by
    intro b o vs hb hd hm
    obtain ⟨⟨o1, q1, q2⟩, _⟩ := R.live b hm
    rw [hb] at q1; cases q1
    exact q2 vs hd
  have hef : e ∉ C.fr := nfr e oe vs he hd
  have hlive : ∀ L ∈ C.fr, (butH s.heap (e :: C.fr)).get? L = none ∧ ∃ o, s.heap.get? L = some o ∧ ∀ vs, o.data ≠ .fields vs := by
    intro L hL
    refine ⟨by rw [butH_get, if_pos (List.mem_cons_of_mem _ hL)], (R.live L hL).1⟩
  have hl : s.heap.FunFrames (butH s.heap (e :: C.fr)) (f.env :: outer) := by
    refine fun_frames (C := C) hlive fun env hm => ?_
    rcases List.mem_cons.mp hm with rfl | hm
    · exact ⟨by rw [F.kind]; decide, _, hlm, hf⟩
    · exact hout env hm
  have hkb : (butH s.heap (e :: C.fr)).StaysIn s.heap := by
    intro b o hb
    rw [butH_get] at hb
    split at hb
    · cases hb
    · exact hb
  have hen : (butH s.heap (e :: C.fr)).get? e = none := by rw [butH_get, if_pos List.mem_cons_self]
  refine hG ?_
  unfold noteFrame
  simp only [hf]
  refine wpAny_bind (wpAny_field he hd h1 ?_)
  rw [if_neg (by decide)]
  refine wpAny_newEntry hfr hl hf he hkb hen hd (Array.getElem?_eq_some_iff.mp h1).1 fun h' hL => ?_
  refine hideG fun G hG => ?_
  obtain ⟨k1, k2, k3, k4⟩ := hL
  have LD : Landed C e s.heap h' := ⟨k1, fun b o hb hn => let ⟨sl, q⟩ := k4 b o hb hn; ⟨_, q, rfl⟩⟩
  have R1 : Rel C H { s with heap := h' } := LD.rel (tk := s.toks) R He h0
  have F1 : FrOk C f L H h' := LD.frame F
  obtain ⟨oe1, ws, T1, oT, ts, g1, g2, g3, g4, g5, g6, g7, g8, g9⟩ := k3
  rw [hcls] at g2
  have hTf : T1 ∉ C.fr := by
    intro hm
    obtain ⟨⟨o1, q1, q2⟩, _⟩ := R1.live T1 hm
    have q1 : h'.get? T1 = some o1 := q1
    rw [g7] at q1; cases q1
    exact q2 ts g8
  have hTs : s.heap.get? T1 = none := by
    rw [butH_get, if_neg (by simp [g6, hTf])] at g5; exact g5
  obtain ⟨HT, h0T⟩ := R.dead hTs
  refine hG ?_
  refine wpAny_handleBy_builtin (X := T) (T := T) (b := true) hexc hnt hsub ?_
  refine wpAny_mono (ht _ _ _ R1 F1) (fun c s1 ⟨L1, H1, R2, F2, k, st, hc, e1, e2⟩ => ?_) fun _ _ e => e
  subst e1; subst e2
  have how : ∀ a o, s.heap.get? a = none → h'.get? a = some o → a ∉ f.ow := by
    intro a o ha _ hm
    exact (F.ne ha).2.2 hm
  have hoe : e ∉ f.ow := by
    intro hm
    rcases F.own e hm with q | ⟨x, hx, hc⟩
    · rw [q] at hef; exact hef hlm
    · obtain ⟨c, v, e1, ⟨o', e2, e3⟩, _⟩ := F.cell x hx
      rw [hc] at e1; cases e1
      rw [he] at e2; cases e2
      rw [hd] at e3; cases e3
  have E1 := (k.at g1 He hoe hef).1
  have T2 := (k.at g7 HT (how T1 _ hTs g7) hTf).1
  refine ⟨er_type hc, ⟨_, E1, g2⟩, ?_⟩
  rw [if_pos rfl]
  refine wpAny_setFlight_none E1 g3 g4 T2 g8 (Array.getElem?_eq_some_iff.mp g9).1 ?_
  have hs : Heap.SameBut T1 s1.heap (s1.heap.update T1 (Obj.mapFields (·.setIfInBounds 3 .none))) := Heap.SameBut.update ..
  have hTl : f.env.locals ≠ T1 := by rintro rfl; exact hTf hlm
  refine h _ _ _ (R2.only (tk := s1.toks) (fun b o hb e => (hs.2 b hb).trans e) HT h0T hTf) (F2.only (fun b o hb e => (hs.2 b hb).trans e) hTl (fun x c hx hc => (F.ne hTs).2.1 x c hx hc)) ?_ ⟨st.gens, st.os⟩
  intro a o hne ha Ha hn
  obtain ⟨o1, q1, q2, q3⟩ := LD.kept (ow := []) R a o hne ha
  obtain ⟨⟨o2, p1, p2, p3⟩, _⟩ := k a o1 q1 Ha hn
  refine ⟨o2, (hs.2 a ?_).trans p1, p2.trans q2, fun hf => (p3 hf).trans (q3 hf)⟩
  rintro rfl; rw [hTs] at ha; cases ha
theorem XW.tryNext {x : Str} {fn : Expr} {xp cp ap bp np hp tp : Pos} {b₀ : Stmt} {suite : List Stmt} {Q : Flow → Loc → AH → Prop} (O : C.Ok) (hA : AF C A f) (hh : A.handled = none)
    (hk : f.env.kindOf x = some .local) (how : f.env.locals ∈ f.ow) (hks : f.env.kindOf "StopIteration" = some .globalImplicit) (hg : C.mg "StopIteration" = none)
    (h : EW C A nx f fn L H fun fv L1 H1 => Ex5 fun (m it l : Addr) (i : Nat) (xs : List Value) => An5 (fv = .ref m) (H1 m = some (.obj (wrapObj it))) (H1 it = some (.liter l i)) (H1 l = some (.list xs))
      (match xs[i]? with
      | some v => Q .brk (setL L1 x v) (upd H1 it (.liter l (i + 1)))
      | none => ∀ A' o, SW C A' nx f (b₀ :: suite) L1 (upd H1 it (.obj o)) Q))
    (hn : (match fn with | .Attribute _ _ _ => false | _ => true) = true := by rfl)
    (hs : swapsWith (.Call fn [] [] cp) (some (.Name x xp)) ap.line f.env = pure false := by rfl) (hw : swappedStores [.Name x xp] (.Call fn [] [] cp) f.env = pure none := by rfl) :
    XW C A E f (.Try [.Assign [.Name x xp] (.Call fn [] [] cp) ap, .Break bp] [.ExceptHandler (some (.Name "StopIteration" np)) none (b₀ :: suite) hp] [] [] tp) L H Q := by
  intro s R F
  refine wpAny_Try_except ?_
  show wpAny _ _ (do match ← exec (.Assign [.Name x xp] (.Call fn [] [] cp) ap) f.env with | .next => execs [.Break bp] f.env | fl => pure fl) _ _ s
  refine wpAny_bind ?_
  show wpAny _ _ (do
    standAt ap
    if ← swapsWith (.Call fn [] [] cp) (some (.Name x xp)) ap.line f.env then do
      evalThenUse (.Call fn [] [] cp) f.env fun v => assignAll v ((assignEach [.Name x xp] f.env).map (·.2))
      pure .next
    else do
      let v ← eval (.Call fn [] [] cp) f.env
      assignStores f.env v (← swappedStores [.Name x xp] (.Call fn [] [] cp) f.env) ((assignEach [.Name x xp] f.env).map (·.2))) _ _ s
  rw [hs, hw]
  refine wpAny_bind (wpAny_standAt ?_)
  show wpAny _ _ (do
      let v ← eval (.Call fn [] [] cp) f.env
      assignStores f.env v none ((assignEach [.Name x xp] f.env).map (·.2))) _ _ s
  refine wpAny_bind ?_
  have e0 : eval (.Call fn [] [] cp) f.env = (do PySem.callWith cp (← eval fn f.env) [] (backTo cp (starEach [] f.env)) []) := by
    cases fn <;> first | rfl | cases hn
  rw [e0]
  refine wpAny_bind (wpAny_mono (h s R F) (fun fv s1 ⟨L1, H1, R1, F1, k1, st1, m, it, l, i, xs, hfv, hm, hi, hl, hq⟩ => ?_) fun _ _ e => e.elim)
  have e := er_ref hfv; subst e
  have wm : s1.heap.get? m = some (wrapObj it) := R1.rep m _ hm
  have wi : s1.heap.IsListIter it l i := R1.rep it _ hi
  obtain ⟨vs, n, el, ql⟩ := R1.rep l _ hl
  have itm : it ≠ m := by first | exact no_some (hm) hi | exact (no_some (hm) hi).symm | exact no_some hi (hm) | exact (no_some hi (hm)).symm | exact two_ne (hm) hi (by intro q; cases q; done) | exact (two_ne (hm) hi (by intro q; cases q; done)).symm | (rintro rfl; rw [hm] at hi; cases hi)
  have itl : it ≠ l := by first | exact no_some (hl) hi | exact (no_some (hl) hi).symm | exact no_some hi (hl) | exact (no_some hi (hl)).symm | exact two_ne (hl) hi (by intro q; cases q; done) | exact (two_ne (hl) hi (by intro q; cases q; done)).symm | (rintro rfl; rw [hl] at hi; cases hi)
  refine wpAny_callWith (evalArgs_none (wpAny_pure ⟨rfl, ⟨.machine, (Looks.ld wm).andThen .now⟩, ?_⟩))
  refine call_wrap hh wm wi ⟨_, el, rfl, n, rfl⟩ (fun v hv h' hi' hs' => ?_) (fun hx h' e he hdead hal hk' => ?_)
  · have hxv : xs[i]? = some (er v) := by rw [← ql, List.getElem?_map]; simp [hv]
    rw [hxv] at hq
    obtain ⟨R2, k2⟩ := R1.set (tk := s1.toks) hi (fun b o hb e => (hs'.2 b hb).trans e) (o' := .liter l (i + 1)) hi' rfl rfl
    have F2 := F1.keeps k2
    show wpAny _ _ (do assignAll v [PySem.assign (.Name x xp) f.env]; pure Flow.next) _ _ _
    refine wpAny_bind ?_
    refine wpAny_mono (GW.local (C := C) (A := A) (p := xp) (Q := fun L3 H3 => Q .brk L3 H3) hk how hq v rfl _ R2 F2) (fun _ s3 ⟨L3, H3, R3, F3, k3, st3, q3⟩ => ?_) fun _ _ e => e
    refine wpAny_pure ?_
    refine wpAny_mono (SW.one (XW.brk (C := C) (A := A) (E := nx) (Q := fun fl L H => fl = .brk ∧ Q .brk L H) ⟨rfl, q3⟩) s3 R3 F3) (fun fl s4 ⟨L4, H4, R4, F4, k4, st4, e4, q4⟩ => ?_) fun _ _ e => e.elim
    subst e4
    exact ⟨L4, H4, R4, F4, k1.trans ((k2.weak (by simp)).trans (k3.trans k4)), ⟨(st3.trans st4).gens.trans st1.gens, (st3.trans st4).os.trans st1.os⟩, q4⟩
  · have hxv : xs[i]? = none := by
      have hsz := size_er ql
      simp only [Array.getElem?_eq_none_iff] at hx
      simp only [List.getElem?_eq_none_iff]; omega
    rw [hxv] at hq
    obtain ⟨oi, hoi⟩ := hal
    obtain ⟨R2, k2⟩ := R1.set (tk := s1.toks) hi (fun b o hb e => hk' b o hb e) (o' := .obj oi) hoi rfl rfl
    have F2 := F1.keeps k2
    obtain ⟨He, h0⟩ := R1.dead hdead
    have hei : e ≠ it := by first | exact no_some (hi) He | exact (no_some (hi) He).symm | exact no_some He (hi) | exact (no_some He (hi)).symm | exact two_ne (hi) He (by intro q; cases q; done) | exact (two_ne (hi) He (by intro q; cases q; done)).symm | (rintro rfl; rw [hi] at He; cases He)
    refine caught (C := C) (L := L1) (H := upd H1 it (.obj oi)) (T := "StopIteration") hA R2 F2 (by rw [upd_ne _ _ hei]; exact He) h0 he ?_ ?_ ?_ (fun A' E' => EW.builtin O hks hg rfl ⟨rfl, rfl, rfl⟩) fun A' E' s' R' F' hkk st' => ?_
    · exact isSubtype_of_subB (by decide +kernel)
    · exact isSubtype_of_subB (by decide +kernel)
    · exact isSubtype_of_subB (by decide +kernel)
    refine wpAny_mono (hq A' oi s' R' F') (fun fl s4 ⟨L4, H4, R4, F4, k4, st4, q4⟩ => ?_) fun _ _ e => e.elim
    refine ⟨L4, H4, R4, F4, ?_, st1.trans (⟨st'.gens, st'.os⟩ : Still s1 s') |>.trans st4, q4⟩
    intro a o ha Ha hno
    obtain ⟨⟨o1, q1, q2, q3⟩, Ha1⟩ := k1 a o ha Ha hno
    have hne : a ≠ it := by first | exact no_some (hi) Ha1 | exact (no_some (hi) Ha1).symm | exact no_some Ha1 (hi) | exact (no_some Ha1 (hi)).symm | exact two_ne (hi) Ha1 (by intro q; cases q; done) | exact (two_ne (hi) Ha1 (by intro q; cases q; done)).symm | (rintro rfl; rw [hi] at Ha1; cases Ha1)
    have hae : a ≠ e := by first | exact no_some (hdead) q1 | exact (no_some (hdead) q1).symm | exact no_some q1 (hdead) | exact (no_some q1 (hdead)).symm | exact two_ne (hdead) q1 (by intro q; cases q; done) | exact (two_ne (hdead) q1 (by intro q; cases q; done)).symm | (rintro rfl; rw [hdead] at q1; cases q1)
    have Ha2 : upd H1 it (.obj oi) a = none := by rw [upd_ne _ _ hne]; exact Ha1
    obtain ⟨o2, p1, p2, p3⟩ := hkk a o1 hae (hk' a o1 hne q1) Ha2 hno
    obtain ⟨⟨o3, r1, r2, r3⟩, Ha3⟩ := k4 a o2 p1 Ha2 hno
    exact ⟨⟨o3, r1, r2.trans (p2.trans q2), fun hf => (r3 hf).trans ((p3 hf).trans (q3 hf))⟩, Ha3⟩
end

set_option genInjectivity false in
structure ItSpecT (C : Cx) (A : Around) (I : Addr) (fp : List Addr) (xs : List (List Value)) (D : AH → Prop) (S : Nat → Heap → Prop) (So : Nat → Addr → Heap → Prop) : Prop where
  frame : ∀ i h h', S i h → (∀ a ∈ fp, ∀ o, h.get? a = some o → h'.get? a = some o) → S i h'
  alive : ∀ i h, S i h → ∀ a ∈ fp, ∃ o, h.get? a = some o
  item : ∀ i x H s (Q : Option Value → Shared → Prop) (E : Value → Shared → Prop), xs[i]? = some x → S i s.heap → Rel C H s → D H →
    (∀ r h' tk vs, s.heap.get? r = none → h'.get? r = some { cls := .type "tuple", data := .seq vs } → vs.toList.map er = x → So (i + 1) r h' → (∀ b o, b ∉ fp → s.heap.get? b = some o → h'.get? b = some o) → s.heap.objs.size ≤ r → Q (some (.ref r)) { s with heap := h', toks := tk }) →
    wpAny (model C.prog C.w) A (pyNext (.ref I)) Q E s
  done : ∀ H s (Q : Option Value → Shared → Prop) (E : Value → Shared → Prop), S xs.length s.heap → Rel C H s → D H →
    (∀ h' tk, (∀ b o, b ∉ fp → s.heap.get? b = some o → h'.get? b = some o) → Q none { s with heap := h', toks := tk }) →
    wpAny (model C.prog C.w) A (pyNext (.ref I)) Q E s
  go : ∀ es k p r i s (Q : Unit → Shared → Prop) (E : Value → Shared → Prop), So i r s.heap → (∀ h', S i h' → (∀ b o, b ∉ fp → s.heap.get? b = some o → h'.get? b = some o) → Q () { s with heap := h' }) → wpAny (model C.prog C.w) A (letOwnedTupleGo (.Tuple es k p) (.ref I) (.ref r)) Q E s

noncomputable def ForT (C : Cx) (A : Around) (f : Fm) (t : Expr) (body : List Stmt) (D : AH → Prop) (Q : Flow → Loc → AH → Prop) : List (List Value) → Loc → AH → Prop
  | [], L, H => Q .next L H
  | x :: xs, L, H => ∀ r, H r = none → GW C A nx f t (.ref r) L (upd H r (.tuple x)) fun L1 H1 => SW C A nx f body L1 H1 (turnQ D Q (ForT C A f t body D Q xs))

noncomputable def HeadT (C : Cx) (A : Around) (E : Value → Shared → Prop) (f : Fm) (it : Expr) (L : Loc) (H : AH) (xs : List (List Value)) (D : AH → Prop) (G : Loc → AH → Prop) : Prop :=
  ∀ s, Rel C H s → FrOk C f L H s.heap → ∀ K : Value → Shared → Prop,
    (∀ I fp s1 S So L1 H1, Rel C H1 s1 → FrOk C f L1 H1 s1.heap → Kept C.fr f.ow H H1 s.heap s1.heap → Still s s1 → D H1 → (∀ a ∈ fp, (f.env.locals ≠ a ∧ (∀ x c, isC f.env x → f.env.cells.lookup x = some c → c ≠ a) ∧ a ∉ f.ow) ∧ H1 a = none ∧ C.h₀.get? a = none ∧ a ∉ C.fr) → (∀ a o, s.heap.get? a = some o → H a = none → a ∉ f.ow → a ∉ fp) →
      ItSpecT C A I fp xs D S So → S 0 s1.heap → G L1 H1 → K (.ref I) s1) →
    wpAny (model C.prog C.w) A (eval it f.env) (fun x s1 => wpAny (model C.prog C.w) A (pyIter x) K E s1) E s

section
variable {α β : Type} {C : Cx} {A : Around} {E : Value → Shared → Prop} {f : Fm} {L : Loc} {H : AH}

theorem Rel.onlys {s : Shared} {h' : Heap} {fp : List Addr} {tk : Nat} (R : Rel C H s) (hk : ∀ b o, b ∉ fp → s.heap.get? b = some o → h'.get? b = some o) (hf : ∀ a ∈ fp, H a = none ∧ C.h₀.get? a = none ∧ a ∉ C.fr) : Rel C H { s with heap := h', toks := tk } := by
  refine ⟨fun b o e => hk b o (fun hm => by rw [(hf b hm).2.1] at e; cases e) (R.keep b o e), fun a o e => ?_, R.low, R.hid, fun l hl => ?_⟩
  rotate_left
  · obtain ⟨⟨o, e, nd⟩, q⟩ := R.live l hl
    exact ⟨⟨o, hk l o (fun hm => (hf l hm).2.2 hl) e, nd⟩, q⟩
  have key : ∀ b o', H b = some o' → ∀ x, s.heap.get? b = some x → h'.get? b = some x := fun b o' hb x hx => hk b x (fun hm => by rw [(hf b hm).1] at hb; cases hb) hx
  refine (R.rep a o e).at fun c hc x hx => ?_
  cases o with
  | inst c' d fs sl =>
    simp only [AO.foot, List.mem_cons, List.not_mem_nil, or_false] at hc
    rcases hc with rfl | rfl
    · exact key _ _ e x hx
    · exact key _ _ (R.hid _ _ _ _ _ e) x hx
  | _ => simp only [AO.foot, List.mem_singleton] at hc; subst hc; exact key _ _ e x hx
theorem FrOk.onlys {h h' : Heap} {fp : List Addr} (F : FrOk C f L H h) (hk : ∀ b o, b ∉ fp → h.get? b = some o → h'.get? b = some o) (hf : ∀ a ∈ fp, f.env.locals ≠ a ∧ ∀ x c, isC f.env x → f.env.cells.lookup x = some c → c ≠ a) : FrOk C f L H h' := by
  refine F.keepsAt fun a o e q hm => ⟨⟨o, hk a o (fun hm' => ?_) e, rfl⟩, q⟩
  rcases hm with rfl | ⟨x, hx, hc⟩
  · exact (hf _ hm').1 rfl
  · exact (hf _ hm').2 x a hx hc rfl

end

noncomputable abbrev viewObj (T : String) (d : Addr) : Obj := { cls := .type T, data := .fields #[.ref d] }
noncomputable def pairItems (es : List (Int × Value)) : List (List Value) := es.map fun e => [.int e.1 0, e.2]
noncomputable def enumItems (xs : List Value) : List (List Value) := xs.zipIdx.map fun p => [.int p.2 0, p.1]
noncomputable def Listy (C : Cx) (l : Addr) (ao : AO) (xs : List Value) : Prop := ∀ h, Rep C h l ao → ∃ vs, h.IsList l vs ∧ vs.toList.map er = xs
section
variable {α β : Type} {C : Cx} {A : Around} {E : Value → Shared → Prop} {f : Fm} {L : Loc} {H : AH}
theorem Listy.list {l : Addr} {xs : List Value} : Listy C l (.list xs) xs := fun h ⟨vs, n, e, q⟩ => ⟨vs, ⟨_, e, rfl, n, rfl⟩, q⟩
theorem IterP.dict' (hh : A.handled = none) {d : Addr} {es : List (Int × Value)} {ep : Nat} : IterP C A (.ref d) (es.map fun e => .int e.1 0) (fun H => H d = some (.dict es ep)) :=
  fun x' H s K E hx R dd k => IterP.dict hh (R.notMods dd rfl) x' H s K E hx R dd k

end

section
variable {α β : Type} {C : Cx} {A : Around} {E : Value → Shared → Prop} {f : Fm} {L : Loc} {H : AH}

theorem assignEach_plain {e : Expr} {rest : List Expr} (env : Env) (h : isStar e = false) : assignEach (e :: rest) env = (false, PySem.assign e env) :: assignEach rest env := by
  cases e <;> first | rfl | cases h
theorem GW.tuple2 {t1 t2 : Expr} {k : Nat} {p : Pos} {r : Addr} {x1 x2 : Value} {Q : Loc → AH → Prop} (hh : A.handled = none) (hr : H r = some (.tuple [x1, x2]))
    (h : GW C A E f t1 x1 L H fun L1 H1 => GW C A E f t2 x2 L1 H1 Q) (h1 : isStar t1 = false := by rfl) (h2 : isStar t2 = false := by rfl) : GW C A E f (.Tuple [t1, t2] k p) (.ref r) L H Q := by
  intro v' ev s R F
  have e := er_ref ev; subst e
  obtain ⟨vs, n, e, q⟩ := R.rep r _ hr
  obtain ⟨v1, v2, hvs, e1, e2⟩ := map2 q
  have hz := size_er q
  have ea : assignEach [t1, t2] f.env = [(false, PySem.assign t1 f.env), (false, PySem.assign t2 f.env)] := by
    rw [assignEach_plain _ h1, assignEach_plain _ h2]; rfl
  refine wpAny_assign_Tuple hh ⟨_, e, rfl, n, rfl⟩ (by rw [ea]; simpa using hz.symm) (by rw [ea]; rfl) fun h' hx => ?_
  have hk : ∀ b o, b ∉ ([] : List Addr) → s.heap.get? b = some o → h'.get? b = some o := fun b o _ e => hx b o (Nat.ne_of_lt (Heap.lt_size e)) e
  have R1 : Rel C H { s with heap := h' } := R.onlys (tk := s.toks) (fp := []) hk (fun a ha => by simp at ha)
  have F1 : FrOk C f L H h' := F.onlys (fp := []) hk (fun a ha => by simp at ha)
  rw [ea, hvs]
  show wpAny _ _ (do holding [v2] (PySem.assign t1 f.env v1); (do holding [] (PySem.assign t2 f.env v2); pure ())) _ _ _
  refine wpAny_bind (wpAny_holding (wpAny_mono (h v1 e1 _ R1 F1) (fun _ s2 ⟨L2, H2, R2, F2, k2, st2, q2⟩ => ?_) fun _ _ e => e))
  refine wpAny_bind (wpAny_holding (wpAny_mono (q2 v2 e2 _ R2 F2) (fun _ s3 ⟨L3, H3, R3, F3, k3, st3, q3⟩ => wpAny_pure ?_) fun _ _ e => e))
  exact ⟨L3, H3, R3, F3, (Kept.mk fun a o e q _ => ⟨hk a o (by simp) e, q⟩).trans (k2.trans k3), ⟨st3.gens.trans st2.gens, st3.os.trans st2.os⟩, q3⟩

theorem CallP.dvalues {a : Addr} {es : List (Int × Value)} {ep : Nat} {Q : Value → AH → Prop} (ha : H a = some (.dict es ep)) (h : ∀ r, H r = none → Q (.ref r) (upd H r (.obj (viewObj "dict_values" a)))) : CallP C A E (.builtin "dict.values") [.ref a] H Q := by
  refine CallP.of1 fun s R => ?_
  obtain ⟨kvs, e, q⟩ := R.rep a _ ha
  exact call_meetsIn F.slot_dict_values e.dictOf.typeIs F.entry_dict_values (F.args_dict_values_1 _) (meets_dict_values (intKind C.prog C.w) a (R.notMods ha rfl)) ⟨⟨_, e.dictOf⟩, alloc_push (tk := s.toks) (ao := .obj (viewObj "dict_values" a)) R (Heap.get?_push_size _ rfl) rfl h⟩
theorem IterP.values (hh : A.handled = none) {v d : Addr} {es : List (Int × Value)} {ep : Nat} : IterP C A (.ref v) (es.map (·.2)) (fun H => H v = some (.obj (viewObj "dict_values" d)) ∧ H d = some (.dict es ep)) := by
  intro x' H s K E hx R dd k
  have hx := er_ref hx; subst hx
  obtain ⟨kvs, e, q⟩ := R.rep d _ dd.2
  have hv : s.heap.get? v = some (viewObj "dict_values" d) := R.rep v _ dd.1
  have hlen : kvs.length = es.length := by rw [← q]; simp
  refine wpAny_pyIter_values ⟨_, hv, rfl, rfl⟩ e (k _ _ s.toks (fun i h => h.IsValIter s.heap.objs.size d i es.length ep) ?_ ?_ ?_ ?_)
  · exact (dead s.heap)
  · exact fun b o e => Heap.get?_push_of_some _ e
  · refine ⟨fun i h h' S k => ?_, fun i h ⟨o, e, _⟩ => ⟨o, e⟩, fun i x H s Q E hx S R d k => ?_, fun H s Q E S R d k => ?_, fun t v i s Q E ⟨o, e, c, _⟩ h => go_plain e c (by decide) h, fun i s Q E S h => wpAny_pyIter_valiter S h⟩
    · obtain ⟨o, e, p⟩ := S; exact ⟨o, k o e, p⟩
    · obtain ⟨kvs, e, q⟩ := R.rep _ _ d.2
      have hlen : kvs.length = es.length := by rw [← q]; simp
      rw [← hlen] at S
      obtain ⟨h1, h2⟩ := List.getElem?_eq_some_iff.mp hx
      have hi : i < kvs.length := by rw [hlen]; simpa using h1
      refine wpAny_pyNext_values_item S e (k := kvs[i].1) (v := kvs[i].2) (by simp [hi]) fun h' S' hs => k _ h' s.toks ?_ (hlen ▸ S') fun b o hb e => (hs.2 b hb).trans e
      rw [← h2]; subst q; simp
    · obtain ⟨kvs, e, q⟩ := R.rep _ _ d.2
      have hlen : kvs.length = es.length := by rw [← q]; simp
      rw [List.length_map, ← hlen] at S
      exact wpAny_pyNext_values_end hh S e (by simp) fun h' hs => k h' s.toks fun b o hb e => hs b o hb e
  · exact ⟨_, Heap.get?_push_size _ rfl, rfl, by rw [hlen]; rfl⟩

theorem without_er {kvs es : List (Int × Value)} (h : kvs.map (fun kv => (kv.1, er kv.2)) = es) (i : Int) : (without kvs i).map (fun kv => (kv.1, er kv.2)) = without es i := by
  subst h
  unfold without
  rw [List.filter_map]; rfl
theorem P2.delDict {a : Addr} {es : List (Int × Value)} {ep : Nat} {i : Int} {Q : Unit → AH → Prop} (ha : H a = some (.dict es ep)) (hi : (valueAt es i).isSome = true) (hsz : es.length ≤ sizeLine) (h : ∀ ep', Q () (upd H a (.dict (without es i) ep'))) :
    P2 C A E delItem (.ref a) (.int i 0) H Q := by
  intro a' i' ea ei s R
  have e := er_ref ea; subst e
  obtain ⟨t, rfl⟩ := er_int ei
  obtain ⟨kvs, e, q⟩ := R.rep a _ ha
  have hs : kvs.length ≤ sizeLine := by rw [← q] at hsz; simpa using hsz
  rw [valueAt_er q, Option.isSome_map] at hi
  refine wpAny_delItem_slot e.dictOf.typeIs (by decide) F.slot_dict_delitem (call_meetsIn F.slot_dict_delitem e.dictOf.typeIs F.entry_dict_delitem (F.args_dict_delitem_2 _ _) (meets_dict_delitem_pairs (intKind C.prog C.w) a (intKind_is C.prog C.w i t)) ⟨kvs, e.dictOf, hs, hi, fun h' hd' hs' => ?_⟩)
  obtain ⟨ep', hd''⟩ := hd'.dictAt
  have hr : Rep C h' a (.dict (without es i) ep') := ⟨_, hd'', without_er q i⟩
  obtain ⟨R', k⟩ := R.set (tk := s.toks + 1) ha (fun b o hb e => (hs'.2 b hb).trans e) hr rfl rfl
  exact ⟨_, R', k, ⟨rfl, rfl⟩, h ep'⟩

theorem star_any {a : Addr} {T : String} {xs : List Value} {vs : Array Value} {n : Nat} {Q : List Value → AH → Prop} (hT : T = "list" ∨ T = "tuple") (ht : ∀ s, Rel C H s → ∃ vs n, s.heap.get? a = some { cls := .type T, data := .seq vs n } ∧ vs.toList.map er = xs) (hsz : xs.length ≤ sizeLine) (h : Q xs H) : StarP C A E (.ref a) H Q := by
  intro v' ev s R
  have e := er_ref ev; subst e
  obtain ⟨vs, n, e, q⟩ := ht s R
  have hz := size_er q
  have hl : ∃ b : Value, typeLookup (.type T) "__iter__" = pure (some b) ∧ (b == .none) = false := by
    rcases hT with rfl | rfl
    · exact ⟨_, PySem.F.slot_list_iter.lookup, rfl⟩
    · exact ⟨_, PySem.F.slot_tuple_iter.lookup, rfl⟩
  have z : PW C A E (collect (.ref a)) H fun vs H2 => Q (vs.map er) H2 := by
    intro s R
    obtain ⟨vs, n, e, q⟩ := ht s R
    have hz := size_er q
    refine wpAny_collect_seq a hT e rfl rfl (fun h' hk => ?_) (by lia)
    refine ⟨H, R.onlys (tk := s.toks) (fp := []) (fun b o _ e => hk b o e) (fun a ha => by simp at ha), .mk fun a o e q _ => ⟨hk a o e, q⟩, ⟨rfl, rfl⟩, ?_⟩
    show Q (vs.toList.map er) H
    rw [q]; exact h
  unfold notIterableAtAll
  have hT' : s.TypeIs (.ref a) T := ⟨_, e, rfl⟩
  rcases hT with rfl | rfl
  · exact wpAny_bind (wpAny_specialOf hT' PySem.F.slot_list_iter.lookup (wpAny_pure ⟨H, R, .refl, .refl, rfl, z⟩))
  · exact wpAny_bind (wpAny_specialOf hT' PySem.F.slot_tuple_iter.lookup (wpAny_pure ⟨H, R, .refl, .refl, rfl, z⟩))
theorem StarP.list {a : Addr} {xs : List Value} {Q : List Value → AH → Prop} (ha : H a = some (.list xs)) (hsz : xs.length ≤ sizeLine) (h : Q xs H) : StarP C A E (.ref a) H Q :=
  star_any (vs := #[]) (n := 0) (.inl rfl) (fun s R => R.rep a _ ha) hsz h
theorem P2.addList {a b : Addr} {xs ys : List Value} {Q : Value → AH → Prop} (ha : H a = some (.list xs)) (hb : H b = some (.list ys)) (hsz : xs.length + ys.length ≤ sizeLine) (h : ∀ r, H r = none → Q (.ref r) (upd H r (.list (xs ++ ys)))) : P2 C A E (binaryOp .Add) (.ref a) (.ref b) H Q := by
  intro a' b' ea eb s R
  have e := er_ref ea; subst e
  have e := er_ref eb; subst e
  obtain ⟨vs, n, e, q⟩ := R.rep a _ ha
  obtain ⟨us, m, e2, q2⟩ := R.rep b _ hb
  have h1 := size_er q
  have h2 := size_er q2
  refine concat_meets ⟨_, e, rfl⟩ ⟨_, e2, rfl⟩ noFill_list_add seq_list_add PySem.F.slot_list_add PySem.F.entry_list_add (PySem.F.args_list_add_2 _ _) (list_addW a b vs us n m none none #[] #[] (by lia)) ⟨e, e2, ?_⟩
  exact alloc_push (tk := s.toks) (ao := .list (xs ++ ys)) R ⟨_, 0, Heap.get?_push_size _ rfl, by simp [q, q2]⟩ rfl h
end

section
open PySem.SeqAt PySem.MeetsSeq
section
variable {α β : Type} {C : Cx} {A : Around} {E : Value → Shared → Prop} {f : Fm} {L : Loc} {H : AH}
theorem AIn.room {k : Nat} (h : AIn C A k) : A.units < cLine := by
  have := h.un
  have e : cLine = 9900 := rfl
  lia
theorem ints_are : ∀ {l : List Value} {ns : List Int}, l.map er = ivs ns → IntsAre l ns
  | [], [], _ => .nil
  | [], n :: r, h => by simp [ivs] at h
  | v :: l, [], h => by simp [ivs] at h
  | v :: l, n :: r, h => by
    simp only [ivs, List.map_cons, List.cons.injEq] at h
    obtain ⟨t, rfl⟩ := er_int h.1
    exact .cons n t (ints_are h.2)
theorem int_at {vs : Array Value} {ns : List Int} (q : vs.toList.map er = ivs ns) {m : Nat} (hm : m < vs.size) : ∃ (h2 : m < ns.length) (u : Tok), vs[m] = .int (ns[m]'h2) u := by
  have hl : vs.size = ns.length := by have := size_er q; simpa [ivs] using this
  have h1 : (vs.toList.map er)[m]? = (ivs ns)[m]? := by rw [q]
  simp only [ivs, List.getElem?_map] at h1
  have h2 : m < ns.length := by lia
  simp [hm, h2] at h1
  obtain ⟨t, ht⟩ := er_int h1
  exact ⟨h2, t, ht⟩
theorem all_eq {ns ms : List Int} (h : ns.length = ms.length) : (List.range ns.length).all (fun j => decide (ns[j]? = ms[j]?)) = decide (ns = ms) := by
  rw [Bool.eq_iff_iff]
  simp only [List.all_eq_true, List.mem_range, decide_eq_true_eq]
  constructor
  · intro hh
    refine List.ext_getElem? fun j => ?_
    by_cases hj : j < ns.length
    · exact hh j hj
    · rw [List.getElem?_eq_none (by lia), List.getElem?_eq_none (by lia)]
  · rintro rfl j _; rfl

theorem eq_core {a b : Addr} {ns ms : List Int} {s : Shared} (hu : A.units < cLine) (ha : Rep C s.heap a (.list (ivs ns))) (hb : Rep C s.heap b (.list (ivs ms))) : RcAt A s (.ref a) (.ref b) (decide (ns = ms)) ∧ RcNeAt A s (.ref a) (.ref b) (!decide (ns = ms)) := by
  obtain ⟨vs, n, e, q⟩ := ha
  obtain ⟨us, m, e2, q2⟩ := hb
  have h1 : vs.size = ns.length := by have := size_er q; simpa [ivs] using this
  have h2 : us.size = ms.length := by have := size_er q2; simpa [ivs] using this
  have hl : s.heap.IsList a vs := ⟨_, e, rfl, n, rfl⟩
  have hl2 : s.heap.IsList b us := ⟨_, e2, rfl, m, rfl⟩
  by_cases hsz : vs.size = us.size
  · have he : ∀ j (h1 : j < vs.size) (h2 : j < us.size), EqAt A.in1 s vs[j] us[j] (decide (ns[j]? = ms[j]?)) := by
      intro j j1 j2
      obtain ⟨k1, t, ht⟩ := int_at q j1
      obtain ⟨k2, u, hu⟩ := int_at q2 j2
      rw [ht, hu]
      have := EqAt.int_int (A := A.in1) (s := s) (ns[j]) t (ms[j]) u
      have e : (ns[j] == ms[j]) = decide (ns[j]? = ms[j]?) := by
        rw [List.getElem?_eq_getElem k1, List.getElem?_eq_getElem k2]
        rw [Bool.eq_iff_iff]; simp
      rw [← e]; exact this
    have e : (List.range vs.size).all (fun j => decide (ns[j]? = ms[j]?)) = decide (ns = ms) := by rw [h1]; exact all_eq (by lia)
    have r1 := RcAt.lists hl hl2 hsz hu he
    have r2 := RcNeAt.lists hl hl2 hsz hu he
    rw [e] at r1 r2
    exact ⟨r1, r2⟩
  · have e : decide (ns = ms) = false := by
      rw [decide_eq_false_iff_not]; rintro rfl; exact hsz (by lia)
    rw [e]
    exact ⟨RcAt.lists_lengths hl hl2 (by simpa using hsz) hu, RcNeAt.lists_lengths hl hl2 (by simpa using hsz) hu⟩
theorem P2.eqInts {a b : Addr} {ns ms : List Int} {Q : Value → AH → Prop} (hu : A.units < cLine) (ha : H a = some (.list (ivs ns))) (hb : H b = some (.list (ivs ms))) (h : Q (.bool (decide (ns = ms))) H) : P2 C A E (compareOp .Eq) (.ref a) (.ref b) H Q := by
  intro a' b' ea eb s R
  have e := er_ref ea; subst e
  have e := er_ref eb; subst e
  exact (eq_core hu (R.rep a _ ha) (R.rep b _ hb)).1 C.prog C.w E _ (stay R h)
theorem nil_core {a b : Addr} {xs : List Value} {s : Shared} (hu : A.units < cLine) (ha : Rep C s.heap a (.list xs)) (hb : Rep C s.heap b (.list [])) : RcAt A s (.ref a) (.ref b) xs.isEmpty ∧ RcNeAt A s (.ref a) (.ref b) (!xs.isEmpty) := by
  obtain ⟨vs, n, e, q⟩ := ha
  obtain ⟨us, m, e2, q2⟩ := hb
  have h1 := size_er q
  have h2 := size_er q2
  have hl : s.heap.IsList a vs := ⟨_, e, rfl, n, rfl⟩
  have hl2 : s.heap.IsList b us := ⟨_, e2, rfl, m, rfl⟩
  cases xs with
  | nil =>
    have hz : vs.size = 0 := by simpa using h1
    have hz2 : us.size = 0 := by simpa using h2
    have r1 := RcAt.lists (e := fun _ => true) hl hl2 (by lia) hu (fun j j1 => by lia)
    have r2 := RcNeAt.lists (e := fun _ => true) hl hl2 (by lia) hu (fun j j1 => by lia)
    rw [hz] at r1 r2
    exact ⟨r1, r2⟩
  | cons x r =>
    have : (vs.size != us.size) = true := by rw [h1, h2]; simp
    exact ⟨RcAt.lists_lengths hl hl2 this hu, RcNeAt.lists_lengths hl hl2 this hu⟩
theorem P2.eqNil {a b : Addr} {xs : List Value} {Q : Value → AH → Prop} (hu : A.units < cLine) (ha : H a = some (.list xs)) (hb : H b = some (.list [])) (h : Q (.bool xs.isEmpty) H) : P2 C A E (compareOp .Eq) (.ref a) (.ref b) H Q := by
  intro a' b' ea eb s R
  have e := er_ref ea; subst e
  have e := er_ref eb; subst e
  exact (nil_core hu (R.rep a _ ha) (R.rep b _ hb)).1 C.prog C.w E _ (stay R h)
theorem P2.neNil {a b : Addr} {xs : List Value} {Q : Value → AH → Prop} (hu : A.units < cLine) (ha : H a = some (.list xs)) (hb : H b = some (.list [])) (h : Q (.bool (!xs.isEmpty)) H) : P2 C A E (compareOp .NotEq) (.ref a) (.ref b) H Q := by
  intro a' b' ea eb s R
  have e := er_ref ea; subst e
  have e := er_ref eb; subst e
  exact (nil_core hu (R.rep a _ ha) (R.rep b _ hb)).2 C.prog C.w E _ (stay R h)
theorem CallP.sumInts {a : Addr} {ns : List Int} {Q : Value → AH → Prop} (hh : A.handled = none) (ha : H a = some (.list (ivs ns))) (h : Q (.int ns.sum 0) H) : CallP C A E (.builtin "sum") [.ref a] H Q := by
  refine CallP.of1 fun s R => ?_
  obtain ⟨vs, n, e, q⟩ := R.rep a _ ha
  have hi := ints_are q
  obtain ⟨xs, hx⟩ := hi.allInts.items
  have hx' : vs = intItems xs := by rw [← hx]
  have hl' : s.heap.IsList a (intItems xs) := hx' ▸ ⟨_, e, rfl, n, rfl⟩
  refine sum_intListG hh hl' fun h' tk t' hk => ?_
  have e1 : ns = xs.toList.map (·.1) := by
    rw [← nums_intItems, ← hx']
    exact (show numsOf vs.toList = ns from hi.numsOf).symm
  have e2 : preSum (numAt xs) xs.size = ns.sum := by
    rw [preSum_eq, List.take_of_length_le (by simp), e1]
  rw [e2]
  exact ⟨H, R.onlys (tk := tk) (fp := []) (fun b o _ e => hk b o e) (fun a ha => by simp at ha), .mk fun a o e q _ => ⟨hk a o e, q⟩, ⟨rfl, rfl⟩, h⟩
end

end

section
variable {α β : Type} {C : Cx} {A : Around} {E : Value → Shared → Prop} {f : Fm} {L : Loc} {H : AH}
theorem XW.set2 {t1 t2 e : Expr} {p : Pos} {Q : Flow → Loc → AH → Prop} (h : EW C A E f e L H fun v L1 H1 => GW C A E f t1 v L1 H1 fun L2 H2 => GW C A E f t2 v L2 H2 fun L3 H3 => Q .next L3 H3)
    (hs : swapsWithSole [t1, t2] e p.line f.env = pure false := by rfl) (hw : swappedStores [t1, t2] e f.env = pure none := by rfl) (h1 : isStar t1 = false := by rfl) (h2 : isStar t2 = false := by rfl) : XW C A E f (.Assign [t1, t2] e p) L H Q := by
  unfold XW
  rw [arm_exec_Assign, hs, hw]
  refine TW.standAt ?_
  simp only [pure_bind, Bool.false_eq_true, if_false]
  refine TW.bind (h.mono fun v L1 H1 q => ?_)
  have e1 : (assignEach [t1, t2] f.env).map (·.2) = [PySem.assign t1 f.env, PySem.assign t2 f.env] := by
    rw [assignEach_plain _ h1, assignEach_plain _ h2]; rfl
  rw [e1]
  show TW C A E f (do (do holding [v] (PySem.assign t1 f.env v); assignAll v [PySem.assign t2 f.env]); pure .next) L1 H1 Q
  refine TW.bind (TW.bind (TW.holding ((q v rfl).mono fun _ L2 H2 z => ?_)))
  exact (z v rfl).mono fun _ L3 H3 y => TW.pure y
theorem meets_bool_new_list {a : Addr} {vs : Array Value} {n : Nat} (hfit : (vs.size : Int) < 2 ^ 63) :
    Meets (Builtin.«bool.__new__» ⟨[.type "bool", .ref a], []⟩) (fun _ R s => s.heap.get? a = some { cls := .type "list", data := .seq vs n } ∧ R (.ok (.ret (.bool (!vs.isEmpty)))) { s with toks := s.toks + 1 + 1 }) :=
  .of_wp fun prog w A R s hs => by
    obtain ⟨hp, g, d, tk, os⟩ := s
    have f1 := F.conv_sub_bool
    have hl : Heap.IsList (Shared.heap ⟨hp, g, d, tk, os⟩) a vs := ⟨_, hs.1, rfl, n, rfl⟩
    repeat (any_goals (first | assumption | (with_reducible refine wpAny_truthy_list hl hfit ?_) | wp_step))
    all_goals first | exact ⟨_, rfl, hs.2⟩ | exact hs.2 | skip
theorem CallP.boolList {a : Addr} {xs : List Value} {Q : Value → AH → Prop} (ha : H a = some (.list xs)) (hf : (xs.length : Int) < 2 ^ 63) (h : Q (.bool (!xs.isEmpty)) H) : CallP C A E (.type "bool") [.ref a] H Q := by
  refine CallP.t1 fun v' ev s R => ?_
  have e := er_ref ev; subst e
  obtain ⟨vs, n, e, q⟩ := R.rep a _ ha
  have hl := size_er q
  refine call_bool_1 (meets_bool_new_list (n := n) (by rw [hl]; exact hf)) ⟨e, rfl, ?_⟩
  have : vs.isEmpty = xs.isEmpty := by
    rw [← q]; cases hv : vs.toList with
    | nil => simp [Array.isEmpty, ← Array.length_toList, hv]
    | cons x r => simp [Array.isEmpty, ← Array.length_toList, hv]
  rw [this]
  exact still R h
end

section
variable {C : Cx} {A : Around} {E : Value → Shared → Prop} {f : Fm} {L : Loc} {H : AH}
theorem seqQ.next {rest : List Stmt} {Q : Flow → Loc → AH → Prop} (h : SW C A E f rest L H Q) : seqQ C A E f rest Q .next L H := h
theorem upd_upd (H : AH) (a : Addr) (x y : AO) : upd (upd H a x) a y = upd H a y := by
  funext b; unfold upd; split <;> rfl
theorem upd_comm (H : AH) {a b : Addr} (x y : AO) (h : a ≠ b) : upd (upd H a x) b y = upd (upd H b y) a x := by
  funext c; unfold upd
  by_cases h1 : c = a
  · subst h1; simp [h]
  · by_cases h2 : c = b
    · subst h2; simp [h1]
    · simp [h1, h2]
end
section
variable {C : Cx} {A : Around} {E : Value → Shared → Prop} {f : Fm} {L : Loc} {H : AH}
theorem turnQ.mono {D : AH → Prop} {Q : Flow → Loc → AH → Prop} {g g' : Loc → AH → Prop} (h : ∀ L H, g L H → g' L H) {fl : Flow} {L : Loc} {H : AH} (t : turnQ D Q g fl L H) : turnQ D Q g' fl L H := by
  cases fl with
  | next => exact ⟨t.1, h _ _ t.2⟩
  | cont => exact ⟨t.1, h _ _ t.2⟩
  | brk => exact t
  | ret v => exact t
theorem ForW.invT {t : Expr} {body : List Stmt} {D : AH → Prop} {Q : Flow → Loc → AH → Prop} (I : List Value → Loc → AH → Prop) (nil : ∀ L H, I [] L H → Q .next L H)
    (step : ∀ x xs L H (T : Flow → Loc → AH → Prop), (∀ fl L H, turnQ D Q (I xs) fl L H → T fl L H) → I (x :: xs) L H → GW C A nx f t x L H fun L1 H1 => SW C A nx f body L1 H1 T) : ∀ {xs : List Value} {L : Loc} {H : AH}, I xs L H → ForW C A f t body D Q xs L H
  | [], L, H, h => nil L H h
  | x :: xs, L, H, h => fun v ev => (step x xs L H (turnQ D Q (I xs)) (fun _ _ _ q => q) h v ev).mono fun _ L1 H1 z => TW.mono z fun fl L2 H2 y => turnQ.mono (fun L H q => ForW.invT I nil step q) y
theorem XW.whileT {test : Expr} {body orelse : List Stmt} {p : Pos} {Q : Flow → Loc → AH → Prop} (Inv : Nat → Loc → AH → Prop)
    (turn : ∀ n L H (T : Flow → Loc → AH → Prop), (∀ m L2 H2, m < n → Inv m L2 H2 → T .next L2 H2 ∧ T .cont L2 H2) → (∀ L2 H2, Q .next L2 H2 → T .brk L2 H2) → (∀ v L2 H2, Q (.ret v) L2 H2 → T (.ret v) L2 H2) → Inv n L H → BW C A nx f test L H fun c L1 H1 => if c then SW C A nx f body L1 H1 T else SW C A nx f orelse L1 H1 Q) (n : Nat) (h0 : Inv n L H) : XW C A E f (.While test body orelse p) L H Q :=
  XW.while Inv (fun n L H i => turn n L H _ (fun m L2 H2 h j => ⟨⟨m, h, j⟩, ⟨m, h, j⟩⟩) (fun _ _ q => q) (fun _ _ _ q => q) i) n h0
theorem SW.hide {ss : List Stmt} {Q : Flow → Loc → AH → Prop} (h : ∀ R : Flow → Loc → AH → Prop, (∀ fl L H, Q fl L H → R fl L H) → SW C A E f ss L H R) : SW C A E f ss L H Q := h Q fun _ _ _ q => q
end
section
variable {C : Cx} {A : Around} {E : Value → Shared → Prop} {f : Fm} {L : Loc} {H : AH}
theorem EWo.none {Q : Option Int → Loc → AH → Prop} (h : Q none L H) : EWo C A E f none L H Q := h
theorem EWo.some {e : Expr} {Q : Option Int → Loc → AH → Prop} (h : EW C A E f e L H fun v L1 H1 => ∃ i, v = .int i 0 ∧ Q (some i) L1 H1) : EWo C A E f (some e) L H Q := h
noncomputable def lk : Option NameKind → Bool
  | some .local => true
  | some .cell => true
  | some .free => true
  | _ => false
theorem EW.nameL {x : Str} {p : Pos} {v : Value} {Q : Value → Loc → AH → Prop} (hk : lk (f.env.kindOf x) = true) (hv : L x = some v) (hd : (x == ("__debug__" : Str)) = false) (hn : (x == ("__classdict__" : Str)) = false) (h : Q v L H) : EW C A E f (.Name x p) L H Q := by
  cases e : f.env.kindOf x with
  | none => rw [e] at hk; cases hk
  | some k =>
    rw [e] at hk
    cases k <;> first | cases hk | skip
    · exact EW.local e hv h hd
    · exact EW.cell e hv h hd
    · exact EW.free e hv h hd hn
end
theorem setL_go {L : Loc} {x y : Str} {v : Value} {w : Option Value} (h : (y == x) = false) (k : L y = w) : setL L x v y = w := (setL_ne (by rintro rfl; simp at h)).trans k
local macro_rules | `(tactic| walk_at "wloc") => `(tactic| repeat (first | exact setL_same | assumption | refine setL_go rfl ?_))
theorem kindE {f : Fm} {names : List (Str × NameKind)} {x : Str} {k : Option NameKind} (F : ∀ x, f.env.kindOf x = names.lookup x) (h : names.lookup x = k) : f.env.kindOf x = k := (F x).trans h
noncomputable def nmOk (names : List (Str × NameKind)) (x : Str) : Bool := lk (names.lookup x) && !(x == ("__debug__" : Str)) && !(x == ("__classdict__" : Str))
section
variable {C : Cx} {A : Around} {E : Value → Shared → Prop} {f : Fm} {L : Loc} {H : AH}
theorem EW.nameK {x : Str} {p : Pos} {v : Value} {names : List (Str × NameKind)} {Q : Value → Loc → AH → Prop} (F : ∀ x, f.env.kindOf x = names.lookup x) (hk : nmOk names x = true) (hv : L x = some v) (h : Q v L H) : EW C A E f (.Name x p) L H Q := by
  unfold nmOk at hk
  simp only [Bool.and_eq_true, Bool.not_eq_true'] at hk
  exact EW.nameL (by rw [F]; exact hk.1.1) hv hk.1.2 hk.2 h
theorem GW.localF {x : Str} {p : Pos} {v : Value} {names : List (Str × NameKind)} {Q : Loc → AH → Prop} (F : Frame f names) (hk : names.lookup x = some .local) (h : Q (setL L x v) H) : GW C A E f (.Name x p) v L H Q := GW.local ((F.kinds _).trans hk) F.loc h
theorem GW.cellF {x : Str} {p : Pos} {v : Value} {names : List (Str × NameKind)} {Q : Loc → AH → Prop} (F : Frame f names) (hk : names.lookup x = some .cell) (h : Q (setL L x v) H) : GW C A E f (.Name x p) v L H Q := GW.cell ((F.kinds _).trans hk) (F.cell _ hk) h
end
local macro_rules | `(tactic| walk_at "wkind") => `(tactic| exact Frame.kinds (by assumption))
local macro_rules | `(tactic| walk_at "wkg") => `(tactic| exact kindE (Frame.kinds (by assumption)) (by kernel_rfl!))
local macro_rules | `(tactic| walk_at "wglob") => `(tactic| fail)
local macro_rules | `(tactic| walk_at "wname") => `(tactic| focus ((with_reducible show EW _ _ _ _ (.Name _ _) _ _ _); first | walk_at "wglob" | refine EW.nameK (by walk_at "wkind") (by kernel_rfl!) (by walk_at "wloc") ?_))
protected def Alts (k : Nat) (s : String) : Lean.MacroM (Lean.TSyntax `tactic) := do
  let h ← `(?_)
  let ts ← (s.splitOn " ").toArray.mapM fun n => `(Lean.Parser.Tactic.tacticSeq| refine $(Lean.Syntax.mkApp (Lean.mkIdent n.toName) (Array.replicate k h)))
  `(tactic| with_reducible first $[| $ts]*)
protected def Foc (k n : Nat) (s : String) : Lean.MacroM (Lean.TSyntax `tactic) := do
  `(tactic| focus ($(← Mine.Alts k s):tactic; rotate_left; iterate $(Lean.Syntax.mkNumLit (toString n)) (first | rfl | decide | with_unfolding_all rfl)))
local macro_rules | `(tactic| walk_at "ww1") => do `(tactic| first
  | $(← Mine.Alts 1 "seqQ.next SW.cons SW.nil XW.augAttr XW.ite XW.ret XW.brk XW.cont XW.pass GW.attr GW.sub EW.cint EW.cnone EW.cbool EW.subscript EW.binop EW.list EW.tuple EW.dict0 EW.ifexp EW.unary EW.slice EWo.none EWo.some BW.and BW.or BW.andLast BW.orLast EW.and EW.or EW.boolLast BW.not AW.nil AW.star"):tactic
  | walk_at "wname"
  | $(← Mine.Foc 4 3 "XW.set"):tactic
  | focus ((with_reducible refine GW.localF (by assumption) ?_ ?_); kernel_rfl!)
  | focus ((with_reducible refine EW.named ?_ ?_ ?_); rotate_left; exact (Frame.kinds (by assumption) _).trans rfl; exact Frame.loc (by assumption))
  | $(← Mine.Foc 5 4 "EW.method"):tactic
  | $(← Mine.Foc 3 2 "EW.call"):tactic
  | $(← Mine.Foc 2 1 "EW.compare BW.compare"):tactic
  | focus ((with_reducible refine GW.cellF (by assumption) ?_ ?_); kernel_rfl!)
  | $(← Mine.Foc 2 1 "XW.expr' EW.attr AW.cons BW.plain"):tactic)
local macro_rules | `(tactic| walk_at "ww") => `(tactic| repeat walk_at "ww1")

noncomputable def view07 : Program := PySem.W.view PySem.Challenge.pw_dm0133_07 [0, 2, 3, 4, 5, 6, 8, 9]
theorem saidA : namesResolve PySem.Challenge.rw_dm0133_07.row.prog = true := by
  rw [PySem.W.Fast.te8377067652309620493]
  kernel_rfl
theorem saidB : noRoadLSs { strict := !(importedModules PySem.Challenge.rw_dm0133_07.row.prog.main.body).all cThrough.contains, foot := none, bare := (["vars", "dir", "locals"] : List Str).filter (readsOut PySem.Challenge.rw_dm0133_07.row.prog PySem.Challenge.rw_dm0133_07.row.prog.main.body) } PySem.Challenge.rw_dm0133_07.row.prog.main.body = true := by
  rw [PySem.W.Fast.te8326940854005059898, PySem.W.Fast.te13343964577679436407]
  kernel_rfl
theorem saidC : namesMeet PySem.Challenge.rw_dm0133_07.row.prog PySem.Challenge.rw_dm0133_07.row.prog.main.body (fun _ n => attrL n) = true := by
  rw [PySem.W.Fast.te17119622794617984870]
  kernel_rfl
theorem saidR : PySem.Challenge.rw_dm0133_07.row.wellSaid = true := by
  unfold OpenRow.wellSaid OpenRow.partSaid looksOpen
  repeat' with_reducible refine PySem.W.look_both ?_ ?_
  all_goals first | with_reducible exact saidA | with_reducible exact saidB | with_reducible exact saidC | kernel_rfl
theorem said07 : PySem.Challenge.rw_dm0133_07.wellSaid = true := by
  unfold OpenLaw.wellSaid
  iterate 18 refine PySem.W.look_both ?_ ?_
  with_reducible exact saidR
  all_goals (try rw [PySem.W.Fast.te8326940854005059898]); (try rw [PySem.W.Fast.te17119622794617984870]); kernel_rfl
noncomputable def endsF : {g : Program → World → Nat → Option Shared // openEnds treeTable = g} := by
  refine ⟨?g, ?h⟩
  case h =>
    funext p w N
    unfold openEnds topFrom fencedOpening
    rw [PySem.W.Fast.te14082659384304107361, PySem.W.Fast.te10274390034422433532, PySem.W.Fast.te1435165496053646825, PySem.W.Fast.te14289696077712309145, PySem.W.Fast.te14364793385576792824]
theorem headX (H : Hook) {r : OpenRow} {q : Program} {d : DefRec} {kwd : List (Str × Expr)} {N : Nat} (left : ∀ w, (endsF.1 r.prog w N).map (fun s => (openSeen q [PySem.Str.ofString "_NodeInfo"] (importedModules r.prog.main.body) (fun s => xlAt q [] s && recOk r.toRowW.records s) true s, H.obs s)) = some (openGood q [PySem.Str.ofString "_NodeInfo"], H.val w))
    (hdef : defOf q r.name = some (d, kwd)) (hp : r.prog.theDef r.name = some (d.params, d.body, d.scope)) (hk : kwWritten? d.params.kwonlyargs d.params.kw_defaults = some kwd) (hwr : (!r.writes || r.records.isEmpty) = true)
    (k1 : r.wellSaid = true) (ok : (chainsOk q && opensWell r.prog && (frees r.toRowW && r.within.isEmpty)) = true) (hb : r.prog.bare) (hw : r.toRowW.promised)
    (call : WalkO q [PySem.Str.ofString "_NodeInfo"] (XL q []) H.says r.toRowW d kwd fun f vs => PySem.call f vs) : r.Holds :=
  holds_open (fun w => by have := left w; rw [← endsF.2] at this; exact this) H.of H.keeps (fun s e => xl_of s (Bool.and_eq_true_iff.mp e).1) XL.keeps hdef hp hk (fun s e => recFacts_of (Bool.and_eq_true_iff.mp e).2) hwr k1 ok hb hw call
local macro_rules | `(tactic| o_law) => `(tactic| refine holds_law Mine.said07 fun said => ?_)
local macro_rules | `(tactic| o_head $H) => `(tactic| (refine Mine.headX $H (q := Mine.view07) (N := 2332) ?hl (by rfl) (by rfl) (by rfl) (by rfl) (by assumption) (by decide +kernel) ⟨rfl, rfl, rfl, rfl, rfl, by decide +kernel⟩ ?hw ?hc; (case hl => intro w; kernel_rfl)))
open_top hd07 for PySem.Challenge.rw_dm0133_07

noncomputable def mgOf (K : Frag) (x : Str) : Option Value := match K.lookup mainGlobals with
  | some ⟨_, _, .dict es _, _⟩ => nsFind es x
  | _ => none
set_option genInjectivity false in
structure Ctx (C : Cx) : Prop where
  O : C.Ok
  K : C.K = hd07.heap_1 C.w.params
  mg : C.mg = mgOf (hd07.heap_1 C.w.params)
theorem Ctx.push {C : Cx} (X : Ctx C) (L : Addr) : Ctx (C.push L) := ⟨X.O.push, X.K, X.mg⟩
theorem Ctx.look {C : Cx} (X : Ctx C) {a : Addr} {o : Obj} (h : (hd07.heap_1 C.w.params).lookup a = some o) : C.K.lookup a = some o := by rw [X.K]; exact h
local macro_rules | `(tactic| walk_at "kk") => `(tactic| (rw [Ctx.K (by assumption)]; kernel_rfl))
section
variable {C : Cx}
theorem g_NodeInfo (X : Ctx C) : C.mg "_NodeInfo" = some (.ref 40) := (congrFun X.mg _).trans (by kernel_rfl)
theorem g_TS (X : Ctx C) : C.mg "TopologicalSorter" = some (.ref 137) := (congrFun X.mg _).trans (by kernel_rfl)
theorem g_CycleError (X : Ctx C) : C.mg "CycleError" = some (.ref 55) := (congrFun X.mg _).trans (by kernel_rfl)
theorem g_out (X : Ctx C) : ∃ t, C.mg "_NODE_OUT" = some (.int (-1) t) := ⟨_, (congrFun X.mg _).trans rfl⟩
theorem g_dn (X : Ctx C) : ∃ t, C.mg "_NODE_DONE" = some (.int (-2) t) := ⟨_, (congrFun X.mg _).trans rfl⟩
theorem b_len (X : Ctx C) : C.mg "len" = none := (congrFun X.mg _).trans (by kernel_rfl)
theorem b_iter (X : Ctx C) : C.mg "iter" = none := (congrFun X.mg _).trans (by kernel_rfl)
theorem b_set (X : Ctx C) : C.mg "set" = none := (congrFun X.mg _).trans (by kernel_rfl)
theorem b_bool (X : Ctx C) : C.mg "bool" = none := (congrFun X.mg _).trans (by kernel_rfl)
theorem b_tuple (X : Ctx C) : C.mg "tuple" = none := (congrFun X.mg _).trans (by kernel_rfl)
theorem b_StopIteration (X : Ctx C) : C.mg "StopIteration" = none := (congrFun X.mg _).trans (by kernel_rfl)
theorem b_range (X : Ctx C) : C.mg "range" = none := (congrFun X.mg _).trans (by kernel_rfl)
theorem b_enumerate (X : Ctx C) : C.mg "enumerate" = none := (congrFun X.mg _).trans (by kernel_rfl)
theorem b_sum (X : Ctx C) : C.mg "sum" = none := (congrFun X.mg _).trans (by kernel_rfl)
theorem b_type (X : Ctx C) : C.mg "type" = none := (congrFun X.mg _).trans (by kernel_rfl)
theorem b_list (X : Ctx C) : C.mg "list" = none := (congrFun X.mg _).trans (by kernel_rfl)
theorem b_ValueError (X : Ctx C) : C.mg "ValueError" = none := (congrFun X.mg _).trans (by kernel_rfl)
end
theorem EW.globalI {C : Cx} {A : Around} {E : Value → Shared → Prop} {f : Fm} {L : Loc} {H : AH} {x : Str} {p : Pos} {i : Int} {Q : Value → Loc → AH → Prop} (O : C.Ok) (hk : f.env.kindOf x = some .globalImplicit) (hv : ∃ t, C.mg x = some (.int i t)) (h : Q (.int i 0) L H)
    (hd : (x == ("__debug__" : Str)) = false := by decide) : EW C A E f (.Name x p) L H Q := by
  obtain ⟨t, hv⟩ := hv
  exact EW.global O hk hv h hd
section
variable {C : Cx} {A : Around} {E : Value → Shared → Prop} {f : Fm} {L : Loc} {H : AH} {p : Pos} {Q : Value → Loc → AH → Prop}
theorem n_NodeInfo (X : Ctx C) (hk : f.env.kindOf "_NodeInfo" = some .globalImplicit) (h : Q (.ref 40) L H) : EW C A E f (.Name "_NodeInfo" p) L H Q := EW.global X.O hk (g_NodeInfo X) h
theorem n_TS (X : Ctx C) (hk : f.env.kindOf "TopologicalSorter" = some .globalImplicit) (h : Q (.ref 137) L H) : EW C A E f (.Name "TopologicalSorter" p) L H Q := EW.global X.O hk (g_TS X) h
theorem n_CycleError (X : Ctx C) (hk : f.env.kindOf "CycleError" = some .globalImplicit) (h : Q (.ref 55) L H) : EW C A E f (.Name "CycleError" p) L H Q := EW.global X.O hk (g_CycleError X) h
theorem n_out (X : Ctx C) (hk : f.env.kindOf "_NODE_OUT" = some .globalImplicit) (h : Q (.int (-1) 0) L H) : EW C A E f (.Name "_NODE_OUT" p) L H Q := EW.globalI X.O hk (g_out X) h
theorem n_dn (X : Ctx C) (hk : f.env.kindOf "_NODE_DONE" = some .globalImplicit) (h : Q (.int (-2) 0) L H) : EW C A E f (.Name "_NODE_DONE" p) L H Q := EW.globalI X.O hk (g_dn X) h
theorem n_len (X : Ctx C) (hk : f.env.kindOf "len" = some .globalImplicit) (h : Q (.builtin "len") L H) : EW C A E f (.Name "len" p) L H Q := EW.builtin X.O hk (b_len X) (v := .builtin "len") (by kernel_rfl) h
theorem n_iter (X : Ctx C) (hk : f.env.kindOf "iter" = some .globalImplicit) (h : Q (.builtin "iter") L H) : EW C A E f (.Name "iter" p) L H Q := EW.builtin X.O hk (b_iter X) (v := .builtin "iter") (by kernel_rfl) h
theorem n_set (X : Ctx C) (hk : f.env.kindOf "set" = some .globalImplicit) (h : Q (.type "set") L H) : EW C A E f (.Name "set" p) L H Q := EW.builtin X.O hk (b_set X) (v := .type "set") (by kernel_rfl) h
theorem n_bool (X : Ctx C) (hk : f.env.kindOf "bool" = some .globalImplicit) (h : Q (.type "bool") L H) : EW C A E f (.Name "bool" p) L H Q := EW.builtin X.O hk (b_bool X) (v := .type "bool") (by kernel_rfl) h
theorem n_tuple (X : Ctx C) (hk : f.env.kindOf "tuple" = some .globalImplicit) (h : Q (.type "tuple") L H) : EW C A E f (.Name "tuple" p) L H Q := EW.builtin X.O hk (b_tuple X) (v := .type "tuple") (by kernel_rfl) h
theorem n_StopIteration (X : Ctx C) (hk : f.env.kindOf "StopIteration" = some .globalImplicit) (h : Q (.type "StopIteration") L H) : EW C A E f (.Name "StopIteration" p) L H Q := EW.builtin X.O hk (b_StopIteration X) (v := .type "StopIteration") (by kernel_rfl) h
theorem n_range (X : Ctx C) (hk : f.env.kindOf "range" = some .globalImplicit) (h : Q (.type "range") L H) : EW C A E f (.Name "range" p) L H Q := EW.builtin X.O hk (b_range X) (v := .type "range") (by kernel_rfl) h
theorem n_enumerate (X : Ctx C) (hk : f.env.kindOf "enumerate" = some .globalImplicit) (h : Q (.type "enumerate") L H) : EW C A E f (.Name "enumerate" p) L H Q := EW.builtin X.O hk (b_enumerate X) (v := .type "enumerate") (by kernel_rfl) h
theorem n_sum (X : Ctx C) (hk : f.env.kindOf "sum" = some .globalImplicit) (h : Q (.builtin "sum") L H) : EW C A E f (.Name "sum" p) L H Q := EW.builtin X.O hk (b_sum X) (v := .builtin "sum") (by kernel_rfl) h
theorem n_type (X : Ctx C) (hk : f.env.kindOf "type" = some .globalImplicit) (h : Q (.type "type") L H) : EW C A E f (.Name "type" p) L H Q := EW.builtin X.O hk (b_type X) (v := .type "type") (by kernel_rfl) h
theorem n_list (X : Ctx C) (hk : f.env.kindOf "list" = some .globalImplicit) (h : Q (.type "list") L H) : EW C A E f (.Name "list" p) L H Q := EW.builtin X.O hk (b_list X) (v := .type "list") (by kernel_rfl) h
theorem n_ValueError (X : Ctx C) (hk : f.env.kindOf "ValueError" = some .globalImplicit) (h : Q (.type "ValueError") L H) : EW C A E f (.Name "ValueError" p) L H Q := EW.builtin X.O hk (b_ValueError X) (v := .type "ValueError") (by kernel_rfl) h
end
local macro_rules | `(tactic| walk_at "wglob") => do `(tactic| focus ($(← Mine.Alts 3 "n_NodeInfo n_TS n_CycleError n_out n_dn n_len n_iter n_set n_bool n_tuple n_StopIteration n_range n_enumerate n_sum n_type n_list n_ValueError"):tactic; assumption; walk_at "wkg"))
section
variable {C : Cx} {A : Around} {E : Value → Shared → Prop} {H : AH}
theorem nodeInit (X : Ctx C) {k : Nat} (hA : AIn C A (k + 1)) {a d : Addr} {v : Value} (ha : H a = some (.inst 40 d [] [])) {Q : Value → AH → Prop}
    (h : ∀ l, H l = none → Q .none (upd (upd H l (.list [])) a (.inst 40 d [] [some (er v), some (.int 0 0), some (.ref l)]))) :
    PC C A (.call (.ref 36) ⟨[.ref a, v], []⟩) H fun v H' => Q (er v) H' := by
  refine PC.fnP [("self", .ref a), ("node", v)] X.O hA (X.look rfl) (by walk_at "kk") rfl rfl rfl rfl rfl rfl rfl rfl rfl rfl ?_
  intro L f A' O' FS hA' hF
  have X' := X.push L
  simp only [locB, List.map_cons, List.map_nil, List.foldl_cons, List.foldl_nil]
  walk_at "ww"
  intro o' v' eo ev
  have eo := er_ref eo; subst eo
  refine setAttr_slot (i := 0) (p := 41) O' FS.loc ha (by walk_at "kk") (by walk_at "kk") (by walk_at "kk") (by walk_at "kk") (by walk_at "kk") (by decide) ?_
  rw [ev]
  walk_at "ww"
  intro o' v' eo ev
  have eo := er_ref eo; subst eo
  refine setAttr_slot (i := 1) (p := 42) O' FS.loc (upd_self ..) (by walk_at "kk") (by walk_at "kk") (by walk_at "kk") (by walk_at "kk") (by walk_at "kk") (by decide) ?_
  rw [ev, upd_upd]
  walk_at "ww"
  refine ⟨Nat.zero_le _, fun l hl => ?_⟩
  have hla : l ≠ a := by first | exact no_some (upd_self ..) hl | exact (no_some (upd_self ..) hl).symm | exact no_some hl (upd_self ..) | exact (no_some hl (upd_self ..)).symm | exact two_ne (upd_self ..) hl (by intro q; cases q; done) | exact (two_ne (upd_self ..) hl (by intro q; cases q; done)).symm | (rintro rfl; rw [upd_self] at hl; cases hl)
  rw [upd_ne _ _ hla] at hl
  walk_at "ww"
  intro o' v' eo ev
  have eo := er_ref eo; subst eo
  refine setAttr_slot (i := 2) (p := 43) O' FS.loc (by rw [upd_ne _ _ hla.symm]; exact upd_self ..) (by walk_at "kk") (by walk_at "kk") (by walk_at "kk") (by walk_at "kk") (by walk_at "kk") (by decide) ?_
  rw [ev, upd_comm _ _ _ hla.symm, upd_upd]
  walk_at "ww"
  exact h l hl

end

noncomputable def nsOf (K : Frag) (a : Addr) (x : Str) : Option Value := match K.lookup a with
  | some ⟨_, _, .dict es _, _⟩ => nsFind es x
  | _ => none
theorem strKeys_of {es : Array DictEntry} (h : es.toList.all (fun e => match e.key with | .str _ _ => true | _ => false) = true) : StrKeys es := by
  intro e he
  have := List.all_eq_true.mp h e (Array.mem_toList_iff.mpr he)
  split at this
  · exact ⟨_, _, by assumption⟩
  · cases this
local macro_rules | `(tactic| walk_at "tl") => `(tactic| (rw [typeLookup_type, builtinLookup_eq_fast]; kernel_rfl))
section
variable {C : Cx} {A : Around} {E : Value → Shared → Prop} {H : AH}
theorem cls137 (X : Ctx C) : Cls C 137 136 (nsOf (hd07.heap_1 C.w.params) 136) := by
  refine ⟨⟨_, _, _, _, _, _, _, _, _, _, _, _, _, _, X.O.kin _ _ (X.look rfl)⟩, ?_, rfl, rfl, rfl⟩
  exact ⟨_, _, _, X.O.kin _ _ (X.look rfl), rfl, strKeys_of rfl, fun _ => rfl⟩
theorem AIn.make {k : Nat} (h : AIn C A (k + 2)) {args : Args} : AIn C (A.under (.builtin "type.__call__" args)) k := by
  obtain ⟨hd, dp, un, fr⟩ := h
  have hf : (Code.builtin "type.__call__" args).frames = 0 := by kernel_rfl!
  have hc : (Code.builtin "type.__call__" args).isCaller = false := rfl
  have hw : (Code.builtin "type.__call__" args).weight ≤ 2 := by
    unfold Code.weight
    rw [hf, hc]
    split <;> split <;> simp
  have hu : (Code.builtin "type.__call__" args).cUnits = 1 := by
    show 1 + 3 * _ = 1
    rw [hf]
  refine ⟨hd, ?_, ?_, fr⟩
  · show A.depth + (Code.builtin "type.__call__" args).weight + k ≤ 900
    lia
  · show A.units + (Code.builtin "type.__call__" args).cUnits + 10 * k ≤ 9000
    lia
theorem PC.mono {c : Code} {Q Q' : Value → AH → Prop} (h : PC C A c H Q) (k : ∀ v H', Q v H' → Q' v H') : PC C A c H Q' := by
  intro s R
  refine codeAny_mono (h s R) ?_
  rintro r s' ⟨v, H', e, R', kk, st, q⟩
  exact ⟨v, H', e, R', kk, st, k v H' q⟩
theorem nodeInit' (X : Ctx C) {k : Nat} (hA : AIn C A (k + 1)) {a d : Addr} {v : Value} (ha : H a = some (.inst 40 d [] [])) {Q : AH → Prop}
    (h : ∀ l, H l = none → Q (upd (upd H l (.list [])) a (.inst 40 d [] [some (er v), some (.int 0 0), some (.ref l)]))) :
    PC C A (.call (.ref 36) ⟨[.ref a, v], []⟩) H fun v H' => v = .none ∧ Q H' :=
  PC.mono (nodeInit X hA ha (Q := fun v H' => v = .none ∧ Q H') fun l hl => ⟨rfl, h l hl⟩) (fun v H' q => ⟨er_none q.1, q.2⟩)
set_option genInjectivity false in
structure Nd where
  v : Int
  a : Addr
  d : Addr
  s : Addr
  np : Int
  su : List Int
noncomputable def ndObj (n : Nd) : AO := .inst 40 n.d [] [some (.int n.v 0), some (.int n.np 0), some (.ref n.s)]
noncomputable def flds (d : Addr) (rd : Value) (p q : Int) : List (Str × Value) := [("_node2info", .ref d), ("_ready_nodes", rd), ("_npassedout", .int p 0), ("_nfinished", .int q 0)]
noncomputable def n2i (N : List Nd) : List (Int × Value) := N.map fun n => (n.v, .ref n.a)
set_option genInjectivity false in
structure Srt (H : AH) (a d0 d : Addr) (ep : Nat) (N : List Nd) (rd : Value) (p q : Int) : Prop where
  inst : H a = some (.inst 137 d0 (flds d rd p q) [])
  dict : H d = some (.dict (n2i N) ep)
  node : ∀ n ∈ N, H n.a = some (ndObj n)
  list : ∀ n ∈ N, H n.s = some (.list (ivs n.su))
  nv : (N.map (·.v)).Nodup
  na : (N.map (·.a)).Nodup
  ns : (N.map (·.s)).Nodup
  sz : N.length ≤ 1000
theorem valueAt_n2i_some {N : List Nd} (hn : (N.map (·.v)).Nodup) {n : Nd} (h : n ∈ N) : valueAt (n2i N) n.v = some (.ref n.a) := by
  induction N with
  | nil => cases h
  | cons x r ih =>
    simp only [List.map_cons, List.nodup_cons] at hn
    unfold valueAt n2i
    rw [List.map_cons, List.find?_cons]
    rcases List.mem_cons.mp h with rfl | h
    · simp
    · have : x.v ≠ n.v := by
        intro e
        exact hn.1 (e ▸ List.mem_map.mpr ⟨n, h, rfl⟩)
      simp only [this, decide_false]
      exact ih hn.2 h
theorem valueAt_n2i_none {N : List Nd} {i : Int} (h : i ∉ N.map (·.v)) : valueAt (n2i N) i = none := by
  induction N with
  | nil => rfl
  | cons x r ih =>
    simp only [List.map_cons, List.mem_cons, not_or] at h
    unfold valueAt n2i
    rw [List.map_cons, List.find?_cons]
    have : ¬ x.v = i := fun e => h.1 e.symm
    simp only [this, decide_false]
    exact ih h.2
theorem stored_n2i {N : List Nd} {i : Int} {v : Value} (h : i ∉ N.map (·.v)) : stored (n2i N) i v = n2i N ++ [(i, v)] := by
  unfold stored
  have : (n2i N).any (fun kv => decide (kv.1 = i)) = false := by
    rw [List.any_eq_false]
    intro x hx
    obtain ⟨n, hn, rfl⟩ := List.mem_map.mp hx
    simp only [decide_eq_true_eq]
    intro e
    exact h (e ▸ List.mem_map.mpr ⟨n, hn, rfl⟩)
  rw [this]; rfl
theorem nodup_snoc {α : Type} {l : List α} {x : α} (h : l.Nodup) (hx : x ∉ l) : (l ++ [x]).Nodup := by
  rw [List.nodup_append]
  exact ⟨h, by simp, by rintro a ha b hb rfl; simp at hb; subst hb; exact hx ha⟩
theorem getInfo (X : Ctx C) {k : Nat} (hA : AIn C A (k + 4)) {a d0 d : Addr} {ep : Nat} {N : List Nd} {rd : Value} {p q : Int} (S : Srt H a d0 d ep N rd p q) {i : Int} {t : Tok} {Q : Value → AH → Prop}
    (h1 : ∀ n ∈ N, n.v = i → Q (.ref n.a) H)
    (h2 : i ∉ N.map (·.v) → ∀ n ep' H', n.v = i → n.np = 0 → n.su = [] → Srt H' a d0 d ep' (N ++ [n]) rd p q → (∀ b o, H b = some o → b ≠ d → H' b = some o) → H n.a = none → H n.s = none → Q (.ref n.a) H') (hsz : N.length < 1000) :
    PC C A (.call (.ref 80) ⟨[.ref a, .int i t], []⟩) H fun v H' => Q (er v) H' := by
  refine PC.fnP [("self", .ref a), ("node", .int i t)] X.O hA (X.look rfl) (by walk_at "kk") rfl rfl rfl rfl rfl rfl rfl rfl rfl rfl ?_
  intro L f A' O' FS hA' hF
  have X' := X.push L
  simp only [locB, List.map_cons, List.map_nil, List.foldl_cons, List.foldl_nil]
  walk_at "ww"
  refine P1.attr (cls137 X') S.inst rfl rfl rfl (by walk_at "tl") fun v ev => ?_
  rw [ev]
  refine MethP.dict S.dict F.slot_dict_get F.type_dict_get ?_
  walk_at "ww"
  refine ⟨KeepOk.builtin, CallP.dget S.dict ?_⟩
  walk_at "ww"
  refine P2.isNone ⟨_, rfl, ?_⟩
  by_cases hi : i ∈ N.map (·.v)
  · obtain ⟨n, hn, rfl⟩ := List.mem_map.mp hi
    rw [valueAt_n2i_some S.nv hn]
    refine SW.nil ?_
    walk_at "ww"
    intro u eu
    show Q (er u) H
    rw [eu]
    exact h1 n hn rfl
  · rw [valueAt_n2i_none hi]
    refine SW.cons ?_
    refine XW.set2 ?_
    walk_at "ww"
    refine ⟨KeepOk.known O' (by walk_at "kk") ⟨_, rfl⟩, CallP.make (fI := 36) O' (by walk_at "kk") (by walk_at "kk") (by walk_at "kk") fun args' ea na nd hna hnd hne => ?_⟩
    obtain ⟨v1, rfl, ev1⟩ := map1 ea
    have hA2 : AIn (C.push L) A' (k + 1 + 2) := hA'
    refine nodeInit' X' (k := k) hA2.make (upd_self ..) fun l hl => ?_
    have hlna : l ≠ na := by first | exact no_some (upd_self ..) hl | exact (no_some (upd_self ..) hl).symm | exact no_some hl (upd_self ..) | exact (no_some hl (upd_self ..)).symm | exact two_ne (upd_self ..) hl (by intro q; cases q; done) | exact (two_ne (upd_self ..) hl (by intro q; cases q; done)).symm | (rintro rfl; rw [upd_self] at hl; cases hl)
    rw [upd_ne _ _ hlna] at hl
    have hlnd : l ≠ nd := by first | exact no_some (upd_self ..) hl | exact (no_some (upd_self ..) hl).symm | exact no_some hl (upd_self ..) | exact (no_some hl (upd_self ..)).symm | exact two_ne (upd_self ..) hl (by intro q; cases q; done) | exact (two_ne (upd_self ..) hl (by intro q; cases q; done)).symm | (rintro rfl; rw [upd_self] at hl; cases hl)
    rw [upd_ne _ _ hlnd] at hl
    rw [ev1, upd_comm _ _ _ hlna.symm, upd_upd]
    have keep : ∀ b o, H b = some o → upd (upd (upd H nd (.hid na)) l (.list [])) na (.inst 40 nd [] [some (er (.int i t)), some (.int 0 0), some (.ref l)]) b = some o := by
      intro b o hb
      rw [upd_ne _ _ (by first | exact no_some (hna) hb | exact (no_some (hna) hb).symm | exact no_some hb (hna) | exact (no_some hb (hna)).symm | exact two_ne (hna) hb (by intro q; cases q; done) | exact (two_ne (hna) hb (by intro q; cases q; done)).symm | (rintro rfl; rw [hna] at hb; cases hb)), upd_ne _ _ (by first | exact no_some (hl) hb | exact (no_some (hl) hb).symm | exact no_some hb (hl) | exact (no_some hb (hl)).symm | exact two_ne (hl) hb (by intro q; cases q; done) | exact (two_ne (hl) hb (by intro q; cases q; done)).symm | (rintro rfl; rw [hl] at hb; cases hb)), upd_ne _ _ (by first | exact no_some (hnd) hb | exact (no_some (hnd) hb).symm | exact no_some hb (hnd) | exact (no_some hb (hnd)).symm | exact two_ne (hnd) hb (by intro q; cases q; done) | exact (two_ne (hnd) hb (by intro q; cases q; done)).symm | (rintro rfl; rw [hnd] at hb; cases hb))]
      exact hb
    have hnew : upd (upd (upd H nd (.hid na)) l (.list [])) na (.inst 40 nd [] [some (er (.int i t)), some (.int 0 0), some (.ref l)]) na = some (ndObj ⟨i, na, nd, l, 0, []⟩) := upd_self ..
    have hnl : upd (upd (upd H nd (.hid na)) l (.list [])) na (.inst 40 nd [] [some (er (.int i t)), some (.int 0 0), some (.ref l)]) l = some (.list (ivs [])) := by
      rw [upd_ne _ _ hlna, upd_self]; rfl
    generalize upd (upd (upd H nd (.hid na)) l (.list [])) na (.inst 40 nd [] [some (er (.int i t)), some (.int 0 0), some (.ref l)]) = H1 at keep hnew hnl ⊢
    walk_at "ww"
    refine P1.attr (cls137 X') (keep _ _ S.inst) rfl rfl rfl (by walk_at "tl") fun v ev => ?_
    rw [ev]
    walk_at "ww"
    intro o' i' v' eo ei ev'
    have eo := er_ref eo; subst eo
    obtain ⟨t', rfl⟩ := er_int ei
    refine setDict (keep _ _ S.dict) (by simp [n2i]; exact Nat.le_trans S.sz (by decide)) fun ep' => ?_
    rw [ev', stored_n2i hi]
    walk_at "ww"
    intro u eu
    show Q (er u) _
    rw [eu]
    have hdd : ∀ b o, H b = some o → b ≠ d → upd H1 d (.dict (n2i N ++ [(i, .ref na)]) ep') b = some o := fun b o hb hne => by rw [upd_ne _ _ hne]; exact keep b o hb
    have dne : ∀ b o, H b = some o → (∀ es ep, o ≠ .dict es ep) → b ≠ d := by
      rintro b o hb hn rfl
      rw [S.dict] at hb; cases hb; exact hn _ _ rfl
    refine h2 hi ⟨i, na, nd, l, 0, []⟩ ep' _ rfl rfl rfl ⟨?_, ?_, ?_, ?_, ?_, ?_, ?_, ?_⟩ hdd hna hl
    · exact hdd _ _ S.inst (dne _ _ S.inst (by simp))
    · rw [upd_self]; simp [n2i]
    · intro n hn
      rcases List.mem_append.mp hn with hn | hn
      · exact hdd _ _ (S.node n hn) (dne _ _ (S.node n hn) (by simp [ndObj]))
      · simp only [List.mem_singleton] at hn; subst hn
        rw [upd_ne _ _ (by first | exact no_some (S.dict) hna | exact (no_some (S.dict) hna).symm | exact no_some hna (S.dict) | exact (no_some hna (S.dict)).symm | exact two_ne (S.dict) hna (by intro q; cases q; done) | exact (two_ne (S.dict) hna (by intro q; cases q; done)).symm | (rintro rfl; rw [S.dict] at hna; cases hna))]; exact hnew
    · intro n hn
      rcases List.mem_append.mp hn with hn | hn
      · exact hdd _ _ (S.list n hn) (dne _ _ (S.list n hn) (by simp))
      · simp only [List.mem_singleton] at hn; subst hn
        rw [upd_ne _ _ (by first | exact no_some (S.dict) hl | exact (no_some (S.dict) hl).symm | exact no_some hl (S.dict) | exact (no_some hl (S.dict)).symm | exact two_ne (S.dict) hl (by intro q; cases q; done) | exact (two_ne (S.dict) hl (by intro q; cases q; done)).symm | (rintro rfl; rw [S.dict] at hl; cases hl))]; exact hnl
    · simp only [List.map_append, List.map_cons, List.map_nil]
      exact nodup_snoc S.nv hi
    · simp only [List.map_append, List.map_cons, List.map_nil]
      refine nodup_snoc S.na fun hm => ?_
      obtain ⟨n, hn, e⟩ := List.mem_map.mp hm
      have := S.node n hn
      rw [show n.a = na from e, hna] at this; cases this
    · simp only [List.map_append, List.map_cons, List.map_nil]
      refine nodup_snoc S.ns fun hm => ?_
      obtain ⟨n, hn, e⟩ := List.mem_map.mp hm
      have := S.list n hn
      rw [show n.s = l from e, hl] at this; cases this
    · simp; lia

end

noncomputable def Foot (a d : Addr) (N : List Nd) (b : Addr) : Prop := b = a ∨ b = d ∨ ∃ n ∈ N, b = n.a ∨ b = n.s
noncomputable def Ext (a d : Addr) (N N' : List Nd) (H H' : AH) : Prop := ∀ b o, H b = some o → ¬ Foot a d N b → H' b = some o ∧ ¬ Foot a d N' b
theorem Ext.refl {a d : Addr} {N : List Nd} {H : AH} : Ext a d N N H H := fun b o h n => ⟨h, n⟩
theorem Ext.trans {a d : Addr} {N N' N'' : List Nd} {H H' H'' : AH} (x : Ext a d N N' H H') (y : Ext a d N' N'' H' H'') : Ext a d N N'' H H'' :=
  fun b o h n => let ⟨h1, n1⟩ := x b o h n; y b o h1 n1
noncomputable def setNp (N : List Nd) (i : Int) (x : Int) : List Nd := N.map fun n => if n.v = i then { n with np := x } else n
noncomputable def setSu (N : List Nd) (i : Int) (xs : List Int) : List Nd := N.map fun n => if n.v = i then { n with su := xs } else n
section
variable {C : Cx} {A : Around} {E : Value → Shared → Prop} {H : AH} {a d0 d : Addr} {ep : Nat} {N : List Nd} {rd : Value} {p q : Int}
theorem setNp_proj (N : List Nd) (i x : Int) : (setNp N i x).map (·.v) = N.map (·.v) ∧ (setNp N i x).map (·.a) = N.map (·.a) ∧ (setNp N i x).map (·.s) = N.map (·.s) ∧ n2i (setNp N i x) = n2i N ∧ (setNp N i x).length = N.length := by
  unfold setNp n2i
  simp only [List.map_map, List.length_map]
  refine ⟨?_, ?_, ?_, ?_, trivial⟩ <;> (apply List.map_congr_left; intro n _; simp only [Function.comp]; split <;> rfl)
theorem setSu_proj (N : List Nd) (i : Int) (xs : List Int) : (setSu N i xs).map (·.v) = N.map (·.v) ∧ (setSu N i xs).map (·.a) = N.map (·.a) ∧ (setSu N i xs).map (·.s) = N.map (·.s) ∧ n2i (setSu N i xs) = n2i N ∧ (setSu N i xs).length = N.length := by
  unfold setSu n2i
  simp only [List.map_map, List.length_map]
  refine ⟨?_, ?_, ?_, ?_, trivial⟩ <;> (apply List.map_congr_left; intro n _; simp only [Function.comp]; split <;> rfl)
theorem foot_iff {a d : Addr} {N N' : List Nd} (h1 : N'.map (·.a) = N.map (·.a)) (h2 : N'.map (·.s) = N.map (·.s)) (b : Addr) : Foot a d N' b ↔ Foot a d N b := by
  have key : ∀ {M : List Nd}, (∃ n ∈ M, b = n.a ∨ b = n.s) ↔ b ∈ M.map (·.a) ∨ b ∈ M.map (·.s) := by
    intro M
    simp only [List.mem_map]
    constructor
    · rintro ⟨n, hn, rfl | rfl⟩
      · exact .inl ⟨n, hn, rfl⟩
      · exact .inr ⟨n, hn, rfl⟩
    · rintro (⟨n, hn, rfl⟩ | ⟨n, hn, rfl⟩)
      · exact ⟨n, hn, .inl rfl⟩
      · exact ⟨n, hn, .inr rfl⟩
  unfold Foot
  rw [key, key, h1, h2]
theorem nd_inj {g : Nd → Addr} {N : List Nd} (h : (N.map g).Nodup) {n m : Nd} (hn : n ∈ N) (hm : m ∈ N) (e : g n = g m) : n = m := by
  induction N with
  | nil => cases hn
  | cons x r ih =>
    simp only [List.map_cons, List.nodup_cons] at h
    rcases List.mem_cons.mp hn with e1 | hn' <;> rcases List.mem_cons.mp hm with e2 | hm'
    · rw [e1, e2]
    · subst e1; exact absurd (List.mem_map.mpr ⟨m, hm', e.symm⟩) h.1
    · subst e2; exact absurd (List.mem_map.mpr ⟨n, hn', e⟩) h.1
    · exact ih h.2 hn' hm'
theorem nd_injv {N : List Nd} (h : (N.map (·.v)).Nodup) {n m : Nd} (hn : n ∈ N) (hm : m ∈ N) (e : n.v = m.v) : n = m := by
  induction N with
  | nil => cases hn
  | cons x r ih =>
    simp only [List.map_cons, List.nodup_cons] at h
    rcases List.mem_cons.mp hn with e1 | hn' <;> rcases List.mem_cons.mp hm with e2 | hm'
    · rw [e1, e2]
    · subst e1; exact absurd (List.mem_map.mpr ⟨m, hm', e.symm⟩) h.1
    · subst e2; exact absurd (List.mem_map.mpr ⟨n, hn', e⟩) h.1
    · exact ih h.2 hn' hm'
theorem Srt.setNp (S : Srt H a d0 d ep N rd p q) {n : Nd} (hn : n ∈ N) (x : Int) : Srt (upd H n.a (ndObj { n with np := x })) a d0 d ep (setNp N n.v x) rd p q ∧ Ext a d N (setNp N n.v x) H (upd H n.a (ndObj { n with np := x })) := by
  obtain ⟨p1, p2, p3, p4, p5⟩ := setNp_proj N n.v x
  have other : ∀ b o, H b = some o → (∀ m, o ≠ ndObj m) → upd H n.a (ndObj { n with np := x }) b = some o := by
    intro b o hb ho
    rw [upd_ne _ _ (by rintro rfl; rw [S.node n hn] at hb; cases hb; exact ho _ rfl)]; exact hb
  refine ⟨⟨other _ _ S.inst (by intro m e; simp [ndObj] at e), by rw [p4]; exact other _ _ S.dict (by intro m e; simp [ndObj] at e), fun m hm => ?_, fun m hm => ?_, by rw [p1]; exact S.nv, by rw [p2]; exact S.na, by rw [p3]; exact S.ns, by rw [p5]; exact S.sz⟩, fun b o hb hf => ?_⟩
  · obtain ⟨m0, hm0, rfl⟩ := List.mem_map.mp hm
    by_cases e : m0.v = n.v
    · have := nd_injv S.nv hm0 hn e; subst this
      simp only [if_true]
      exact upd_self ..
    · simp only [e, if_false]
      rw [upd_ne _ _ (by intro e'; exact e (congrArg Nd.v (nd_inj S.na hm0 hn e')))]; exact S.node m0 hm0
  · obtain ⟨m0, hm0, rfl⟩ := List.mem_map.mp hm
    have h0 := S.list m0 hm0
    have h1 := other _ _ h0 (by intro m e; simp [ndObj] at e)
    split <;> exact h1
  · refine ⟨?_, by rw [foot_iff p2 p3]; exact hf⟩
    rw [upd_ne _ _ (by rintro rfl; exact hf (.inr (.inr ⟨n, hn, .inl rfl⟩)))]; exact hb
theorem Srt.setSu (S : Srt H a d0 d ep N rd p q) {n : Nd} (hn : n ∈ N) (xs : List Int) : Srt (upd H n.s (.list (ivs xs))) a d0 d ep (setSu N n.v xs) rd p q ∧ Ext a d N (setSu N n.v xs) H (upd H n.s (.list (ivs xs))) := by
  obtain ⟨p1, p2, p3, p4, p5⟩ := setSu_proj N n.v xs
  have other : ∀ b o, H b = some o → (∀ m, o ≠ .list m) → upd H n.s (.list (ivs xs)) b = some o := by
    intro b o hb ho
    rw [upd_ne _ _ (by rintro rfl; rw [S.list n hn] at hb; cases hb; exact ho _ rfl)]; exact hb
  refine ⟨⟨other _ _ S.inst (by simp), by rw [p4]; exact other _ _ S.dict (by simp), fun m hm => ?_, fun m hm => ?_, by rw [p1]; exact S.nv, by rw [p2]; exact S.na, by rw [p3]; exact S.ns, by rw [p5]; exact S.sz⟩, fun b o hb hf => ?_⟩
  · obtain ⟨m0, hm0, rfl⟩ := List.mem_map.mp hm
    have h0 := S.node m0 hm0
    have h1 := other _ _ h0 (by simp [ndObj])
    split <;> exact h1
  · obtain ⟨m0, hm0, rfl⟩ := List.mem_map.mp hm
    by_cases e : m0.v = n.v
    · have := nd_injv S.nv hm0 hn e; subst this
      simp only [if_true]
      exact upd_self ..
    · simp only [e, if_false]
      rw [upd_ne _ _ (by intro e'; exact e (congrArg Nd.v (nd_inj S.ns hm0 hn e')))]; exact S.list m0 hm0
  · refine ⟨?_, by rw [foot_iff p2 p3]; exact hf⟩
    rw [upd_ne _ _ (by rintro rfl; exact hf (.inr (.inr ⟨n, hn, .inr rfl⟩)))]; exact hb
end

noncomputable abbrev Pd := List (Int × Int × List Int)
noncomputable def pv (n : Nd) : Int × Int × List Int := (n.v, n.np, n.su)
noncomputable def gP (P : Pd) (i : Int) : Pd := if i ∈ P.map (·.1) then P else P ++ [(i, 0, [])]
noncomputable def npP (P : Pd) (i k : Int) : Pd := P.map fun x => if x.1 = i then (x.1, x.2.1 + k, x.2.2) else x
noncomputable def suP (P : Pd) (i x : Int) : Pd := P.map fun y => if y.1 = i then (y.1, y.2.1, y.2.2 ++ [x]) else y
noncomputable def addP (P : Pd) (i : Int) (ps : List Int) : Pd := ps.foldl (fun P p => suP (gP P p) p i) (npP (gP P i) i ps.length)
section
variable {C : Cx} {A : Around} {E : Value → Shared → Prop} {H : AH} {a d0 d : Addr} {ep : Nat} {N : List Nd} {rd : Value} {p q : Int}
theorem pv_fst (N : List Nd) : (N.map pv).map (·.1) = N.map (·.v) := by simp [pv]
theorem pv_setNp {n : Nd} (h : (N.map (·.v)).Nodup) (hn : n ∈ N) (k : Int) : (setNp N n.v (n.np + k)).map pv = npP (N.map pv) n.v k := by
  unfold setNp npP
  simp only [List.map_map]
  apply List.map_congr_left
  intro m hm
  simp only [Function.comp, pv]
  by_cases e : m.v = n.v
  · have := nd_injv h hm hn e; subst this; simp
  · simp [e]
theorem pv_setSu {n : Nd} (h : (N.map (·.v)).Nodup) (hn : n ∈ N) (x : Int) : (setSu N n.v (n.su ++ [x])).map pv = suP (N.map pv) n.v x := by
  unfold setSu suP
  simp only [List.map_map]
  apply List.map_congr_left
  intro m hm
  simp only [Function.comp, pv]
  by_cases e : m.v = n.v
  · have := nd_injv h hm hn e; subst this; simp
  · simp [e]
theorem getInfo' (X : Ctx C) {k : Nat} (hA : AIn C A (k + 4)) (S : Srt H a d0 d ep N rd p q) {i : Int} {t : Tok} {Q : Value → AH → Prop}
    (h : ∀ n N' ep' H', n ∈ N' → n.v = i → Srt H' a d0 d ep' N' rd p q → N'.map pv = gP (N.map pv) i → Ext a d N N' H H' → N'.length ≤ N.length + 1 → Q (.ref n.a) H') (hsz : N.length < 1000) :
    PC C A (.call (.ref 80) ⟨[.ref a, .int i t], []⟩) H fun v H' => Q (er v) H' := by
  refine getInfo X hA S (fun n hn e => h n N ep H hn e S ?_ .refl (by lia)) (fun hi n ep' H' e1 e2 e3 S' hk ha hs => h n (N ++ [n]) ep' H' (by simp) e1 S' ?_ ?_ (by simp)) hsz
  · unfold gP
    rw [pv_fst, if_pos (e ▸ List.mem_map.mpr ⟨n, hn, rfl⟩)]
  · unfold gP
    rw [pv_fst, if_neg hi]
    simp [pv, e1, e2, e3]
  · intro b o hb hf
    refine ⟨hk b o hb (fun e => hf (.inr (.inl e))), ?_⟩
    rintro (e | e | ⟨m, hm, e⟩)
    · exact hf (.inl e)
    · exact hf (.inr (.inl e))
    · rcases List.mem_append.mp hm with hm | hm
      · exact hf (.inr (.inr ⟨m, hm, e⟩))
      · simp only [List.mem_singleton] at hm; subst hm
        rcases e with rfl | rfl
        · rw [ha] at hb; cases hb
        · rw [hs] at hb; cases hb
end

section
variable {C : Cx} {A : Around} {E : Value → Shared → Prop} {H : AH} {a d0 d : Addr} {ep : Nat} {N : List Nd} {rd : Value} {p q : Int}
theorem CallP.fn {fa : Addr} {vs : List Value} {Q : Value → AH → Prop} (h : ∀ vs', vs'.map er = vs → PC C A (.call (.ref fa) ⟨vs', []⟩) H fun v H' => Q (er v) H') : CallP C A E (.ref fa) vs H Q := by
  intro f' vs' ef ev
  rw [er_ref ef]
  exact PC.call (h vs' ev)
theorem getInfoC (X : Ctx C) {k : Nat} (hA : AIn C A (k + 4)) (S : Srt H a d0 d ep N rd p q) {i : Int} {Q : Value → AH → Prop}
    (h : ∀ n N' ep' H', n ∈ N' → n.v = i → Srt H' a d0 d ep' N' rd p q → N'.map pv = gP (N.map pv) i → Ext a d N N' H H' → N'.length ≤ N.length + 1 → Q (.ref n.a) H') (hsz : N.length < 1000) :
    CallP C A E (.ref 80) [.ref a, .int i 0] H Q := by
  refine CallP.fn fun vs' ev => ?_
  obtain ⟨x1, x2, rfl, ex1, ex2⟩ := map2 ev
  have e := er_ref ex1; subst e
  obtain ⟨t1, rfl⟩ := er_int ex2
  exact getInfo' (Q := Q) X hA S h hsz
theorem Srt.keep {H' : AH} (S : Srt H a d0 d ep N rd p q) (hk : ∀ b o, H b = some o → Foot a d N b → H' b = some o) : Srt H' a d0 d ep N rd p q :=
  ⟨hk _ _ S.inst (.inl rfl), hk _ _ S.dict (.inr (.inl rfl)), fun n hn => hk _ _ (S.node n hn) (.inr (.inr ⟨n, hn, .inl rfl⟩)), fun n hn => hk _ _ (S.list n hn) (.inr (.inr ⟨n, hn, .inr rfl⟩)), S.nv, S.na, S.ns, S.sz⟩
theorem upd_fresh {r : Addr} {o : AO} (hr : H r = none) : ∀ b x, H b = some x → upd H r o b = some x := by
  intro b x hb
  rw [upd_ne _ _ (by first | exact no_some (hr) hb | exact (no_some (hr) hb).symm | exact no_some hb (hr) | exact (no_some hb (hr)).symm | exact two_ne (hr) hb (by intro q; cases q; done) | exact (two_ne (hr) hb (by intro q; cases q; done)).symm | (rintro rfl; rw [hr] at hb; cases hb))]; exact hb
noncomputable def Bd (P : Pd) (k : Nat) : Prop := ∀ x ∈ P, x.2.2.length ≤ k
theorem Bd.g {P : Pd} {k : Nat} (h : Bd P k) (i : Int) : Bd (gP P i) k := by
  unfold gP
  split
  · exact h
  · intro x hx
    rcases List.mem_append.mp hx with hx | hx
    · exact h x hx
    · simp only [List.mem_singleton] at hx; subst hx; simp
theorem Bd.np {P : Pd} {k : Nat} (h : Bd P k) (i j : Int) : Bd (npP P i j) k := by
  intro x hx
  obtain ⟨y, hy, rfl⟩ := List.mem_map.mp hx
  have := h y hy
  split <;> exact this
theorem Bd.su {P : Pd} {k : Nat} (h : Bd P k) (i j : Int) : Bd (suP P i j) (k + 1) := by
  intro x hx
  obtain ⟨y, hy, rfl⟩ := List.mem_map.mp hx
  have := h y hy
  split
  · simp; exact this
  · exact Nat.le_succ_of_le this
theorem Bd.fold {i : Int} : ∀ {ps : List Int} {P : Pd} {k : Nat}, Bd P k → Bd (ps.foldl (fun P p => suP (gP P p) p i) P) (k + ps.length)
  | [], P, k, h => h
  | p :: ps, P, k, h => by
    have := Bd.fold (i := i) (ps := ps) ((h.g p).su p i)
    rw [List.length_cons, show k + (ps.length + 1) = k + 1 + ps.length by lia]
    exact this
theorem Bd.add {P : Pd} {k : Nat} (h : Bd P k) (i : Int) (ps : List Int) : Bd (addP P i ps) (k + ps.length) := Bd.fold ((h.g i).np i _)
theorem gP_len (P : Pd) (i : Int) : (gP P i).length ≤ P.length + 1 := by
  unfold gP; split <;> simp
theorem fold_len {i : Int} : ∀ (ps : List Int) (P : Pd), (ps.foldl (fun P p => suP (gP P p) p i) P).length ≤ P.length + ps.length
  | [], P => Nat.le_refl _
  | p :: ps, P => by
    have := fold_len (i := i) ps (suP (gP P p) p i)
    have h2 := gP_len P p
    have h3 : (suP (gP P p) p i).length = (gP P p).length := by simp [suP]
    rw [List.foldl_cons, List.length_cons]
    lia
theorem addP_len (P : Pd) (i : Int) (ps : List Int) : (addP P i ps).length ≤ P.length + 1 + ps.length := by
  have := fold_len (i := i) ps (npP (gP P i) i ps.length)
  have h2 := gP_len P i
  have h3 : (npP (gP P i) i ps.length).length = (gP P i).length := by simp [npP]
  unfold addP
  lia
theorem addOk (X : Ctx C) {k : Nat} (hA : AIn C A (k + 5)) (S : Srt H a d0 d ep N .none p q) {i : Int} {t : Tok} {ps : List Int} {ps' : List Value} (hps : ps'.map er = ivs ps) {Q : Value → AH → Prop}
    (h : ∀ N' ep' H', Srt H' a d0 d ep' N' .none p q → N'.map pv = addP (N.map pv) i ps → Ext a d N N' H H' → Q .none H') (hsz : N.length + ps.length + 1 < 1000) {K : Nat} (hbd : Bd (N.map pv) K) (hK : K + ps.length ≤ 1000) :
    PC C A (.call (.ref 87) ⟨.ref a :: .int i t :: ps', []⟩) H fun v H' => Q (er v) H' := by
  refine PC.fnK X.O hA (X.look rfl) (by walk_at "kk") rfl rfl rfl rfl rfl rfl rfl rfl ?_
  rw [show bindArgs _ ⟨.ref a :: .int i t :: ps', []⟩ = (do let t' ← newTuple ps'; pure [("self", Value.ref a), ("node", Value.int i t), ("predecessors", t')]) by cases ps' <;> kernel_rfl]
  have hlen : ps'.length = ps.length := by have := congrArg List.length hps; simpa [ivs] using this
  refine PW.bind (PW.newTuple (fun r hr => ?_) (by rw [hlen]; exact Nat.le_trans (by lia) (by decide : (1000 : Nat) ≤ sizeLine)))
  refine PW.pure ⟨rfl, ?_⟩
  intro L f A' O' FS hA' hF
  have X' := X.push L
  simp only [locB, List.map_cons, List.map_nil, List.foldl_cons, List.foldl_nil]
  refine SW.hide fun RR hRR => ?_
  rw [hps]
  walk_at "ww"
  have S1 := S.keep (H' := upd H r (.tuple (ivs ps))) fun b o hb _ => upd_fresh hr b o hb
  have E1 : Ext a d N N H (upd H r (.tuple (ivs ps))) := fun b o hb hf => ⟨upd_fresh hr b o hb, hf⟩
  have hrf : ¬ Foot a d N r := by
    rintro (rfl | rfl | ⟨n, hn, rfl | rfl⟩)
    · rw [S.inst] at hr; cases hr
    · rw [S.dict] at hr; cases hr
    · rw [S.node n hn] at hr; cases hr
    · rw [S.list n hn] at hr; cases hr
  have hrt : upd H r (.tuple (ivs ps)) r = some (.tuple (ivs ps)) := upd_self ..
  generalize upd H r (.tuple (ivs ps)) = H1 at S1 E1 hrt ⊢
  refine P1.attr (cls137 X') S1.inst rfl rfl rfl (by walk_at "tl") fun v ev => ?_
  rw [ev]
  walk_at "ww"
  refine P2.isNotNone ⟨_, rfl, ?_⟩
  refine SW.nil ?_
  walk_at "ww"
  refine MethP.inst (fa := 80) (y := none) (cls137 X') S1.inst rfl (X'.O.kin _ _ (X'.look rfl)) rfl (by walk_at "tl") rfl ?_
  walk_at "ww"
  have hA4 : AIn (C.push L) A' (k + 4) := hA'
  refine ⟨KeepOk.known O' (by walk_at "kk") ⟨_, rfl⟩, getInfoC X' hA4 S1 (fun n N2 ep2 H2 hn hv S2 hp2 E2 hl2 => ?_) (by lia)⟩
  walk_at "ww"
  refine P1.slot (p := 42) (i := 1) O' (S2.node n hn) (by walk_at "kk") (by walk_at "kk") (fun od => by walk_at "kk") (by walk_at "kk") rfl rfl fun v ev => ?_
  rw [ev]
  walk_at "ww"
  have hr2 := (E1.trans E2 : Ext a d N N2 H H2)
  have hrt2 := (E2 r _ hrt hrf).1
  refine ⟨KeepOk.builtin, CallP.lenTuple hrt2 (by simp [ivs]; lia) ?_⟩
  rw [show ((ivs ps).length : Int) = ps.length by simp [ivs]]
  refine P2.iadd fun t2 => ?_
  intro o' v' eo ev'
  have eo := er_ref eo; subst eo
  refine setAttr_slot (i := 1) (p := 42) O' FS.loc (S2.node n hn) (by walk_at "kk") (by walk_at "kk") (by walk_at "kk") (by walk_at "kk") (by walk_at "kk") (by decide) ?_
  rw [ev']
  obtain ⟨S3, E3⟩ := S2.setNp hn (n.np + ps.length)
  have hv2 : n.v = i := hv
  have hrf2 := (E2 r _ hrt hrf).2
  obtain ⟨hrt3, hrf3⟩ := E3 r _ hrt2 hrf2
  have hp3 : (setNp N2 n.v (n.np + ps.length)).map pv = npP (gP (N.map pv) i) i ps.length := by
    rw [pv_setNp S2.nv hn, hp2, hv2]
  have hl3 : (setNp N2 n.v (n.np + ps.length)).length = N2.length := (setNp_proj _ _ _).2.2.2.2
  have E4 := (E1.trans E2).trans E3
  change SW _ _ _ _ _ _ (upd H2 n.a (ndObj { n with np := n.np + ps.length })) _
  generalize upd H2 n.a (ndObj { n with np := n.np + ps.length }) = H3 at S3 E4 hrt3 ⊢
  generalize setNp N2 n.v (n.np + ps.length) = N3 at S3 E4 hp3 hl3 hrf3
  walk_at "ww"
  refine XW.for ?_
  walk_at "ww"
  refine ⟨ivs ps, fun H => H r = some (.tuple (ivs ps)), hrt3, IterP.tuple hA'.hd, ?_⟩
  refine ForW.invT (fun xs L H' => Ex3 fun rem N' ep' => An10 (xs = ivs rem) (Srt H' a d0 d ep' N' .none p q) (Ext a d N N' H H') (rem.foldl (fun P p => suP (gP P p) p i) (N'.map pv) = addP (N.map pv) i ps) (N'.length + rem.length < 1000) (∃ K', Bd (N'.map pv) K' ∧ K' + rem.length ≤ 1000) (H' r = some (.tuple (ivs ps))) (¬ Foot a d N' r) (L "self" = some (.ref a)) (L "node" = some (.int i 0))) ?_ ?_ ⟨ps, N3, ep2, rfl, S3, E4, ?_, by lia, ⟨K, by rw [hp3]; exact (hbd.g i).np i _, hK⟩, hrt3, hrf3, by walk_at "wloc", by walk_at "wloc"⟩
  · rintro L1 H1 ⟨rem, N', ep', e, S', E', hf, _⟩
    cases rem with
    | cons _ _ => cases e
    | nil =>
      walk_at "ww"
      refine hRR _ _ _ ?_
      exact h N' ep' H1 S' hf E'
  · rintro x xs L1 H1 T1 hT1 ⟨rem, N', ep', e, S', E', hf, hlen', ⟨K', hbK, hK'⟩, hrt', hrf', hL1, hL2⟩
    cases rem with
    | nil => cases e
    | cons j rem =>
      cases e
      walk_at "ww"
      refine MethP.inst (fa := 80) (y := none) (cls137 X') S'.inst rfl (X'.O.kin _ _ (X'.look rfl)) rfl (by walk_at "tl") rfl ?_
      walk_at "ww"
      have hlj : N'.length + (rem.length + 1) < 1000 := hlen'
      refine ⟨KeepOk.known O' (by walk_at "kk") ⟨_, rfl⟩, getInfoC X' hA4 S' (fun m N5 ep5 H5 hm hmv S5 hp5 E5 hl5 => ?_) (by lia)⟩
      walk_at "ww"
      refine P1.slot (p := 43) (i := 2) O' (S5.node m hm) (by walk_at "kk") (by walk_at "kk") (fun od => by walk_at "kk") (by walk_at "kk") rfl rfl fun v ev => ?_
      rw [ev]
      refine MethP.list (S5.list m hm) F.slot_list_append F.type_list_append ?_
      walk_at "ww"
      obtain ⟨S6, E6⟩ := S5.setSu hm (m.su ++ [i])
      refine ⟨KeepOk.builtin, CallP.lappend (S5.list m hm) ?_ ?_⟩
      · have := (hbK.g j) (pv m) (hp5 ▸ List.mem_map.mpr ⟨m, hm, rfl⟩)
        simp only [pv, ivs, List.length_map, List.length_cons] at this hK' ⊢
        exact Nat.le_trans (show m.su.length ≤ 1000 by lia) (by decide)
      rw [show ivs m.su ++ [Value.int i 0] = ivs (m.su ++ [i]) by simp [ivs]]
      walk_at "ww"
      obtain ⟨hrt5, hrf5⟩ := E5 r _ hrt' hrf'
      obtain ⟨hrt6, hrf6⟩ := E6 r _ hrt5 hrf5
      refine hT1 _ _ _ ⟨hrt6, rem, _, ep5, rfl, S6, (E'.trans E5).trans E6, ?_, ?_, ⟨K' + 1, ?_, ?_⟩, hrt6, hrf6, by walk_at "wloc", by walk_at "wloc"⟩
      · rw [pv_setSu S5.nv hm, hp5, hmv]; exact hf
      · rw [(setSu_proj _ _ _).2.2.2.2]; lia
      · rw [pv_setSu S5.nv hm, hp5, hmv]; exact (hbK.g j).su j i
      · simp only [List.length_cons] at hK'; lia
  · rw [hp3]; rfl
end

set_option genInjectivity false in
structure Opn (H : AH) (a d0 d : Addr) (ep : Nat) (r : Addr) (N : List Nd) (rdy : List Int) (p q : Int) : Prop where
  s : Srt H a d0 d ep N (.ref r) p q
  l : H r = some (.list (ivs rdy))
  nr : ∀ n ∈ N, n.s ≠ r
noncomputable def FootR (a d r : Addr) (N : List Nd) (b : Addr) : Prop := Foot a d N b ∨ b = r
noncomputable def Fr (F F' : Addr → Prop) (H H' : AH) : Prop := ∀ b o, H b = some o → ¬ F b → H' b = some o ∧ ¬ F' b
noncomputable def SameN (N N' : List Nd) : Prop := N'.map (·.v) = N.map (·.v) ∧ N'.map (·.a) = N.map (·.a) ∧ N'.map (·.s) = N.map (·.s)
theorem SameN.refl {N : List Nd} : SameN N N := ⟨rfl, rfl, rfl⟩
theorem SameN.trans {N N' N'' : List Nd} (x : SameN N N') (y : SameN N' N'') : SameN N N'' := ⟨y.1.trans x.1, y.2.1.trans x.2.1, y.2.2.trans x.2.2⟩
theorem SameN.foot {N N' : List Nd} (x : SameN N N') (a d r b : Addr) : FootR a d r N' b ↔ FootR a d r N b := by
  unfold FootR; rw [foot_iff x.2.1 x.2.2]
noncomputable def setP (P : Pd) (i x : Int) : Pd := P.map fun y => if y.1 = i then (y.1, x, y.2.2) else y
noncomputable def npAt (P : Pd) (i : Int) : Int := ((P.find? fun y => decide (y.1 = i)).map fun y => y.2.1).getD 0
noncomputable def suAt (P : Pd) (i : Int) : List Int := ((P.find? fun y => decide (y.1 = i)).map fun y => y.2.2).getD []
noncomputable def outP (P : Pd) (is : List Int) : Pd := is.foldl (fun P i => setP P i (-1)) P
noncomputable def relP (st : Pd × List Int) (s : Int) : Pd × List Int := (npP st.1 s (-1), if npAt (npP st.1 s (-1)) s = 0 then st.2 ++ [s] else st.2)
noncomputable def doneP1 (st : Pd × List Int) (i : Int) : Pd × List Int := (suAt st.1 i).foldl relP (setP st.1 i (-2), st.2)
noncomputable def doneOk : Pd × List Int → List Int → Prop
  | _, [] => True
  | st, i :: is => i ∈ st.1.map (·.1) ∧ npAt st.1 i = -1 ∧ (∀ s ∈ suAt st.1 i, s ∈ st.1.map (·.1)) ∧ doneOk (doneP1 st i) is
section
variable {C : Cx} {A : Around} {E : Value → Shared → Prop} {H : AH} {a d0 d r : Addr} {ep : Nat} {N : List Nd} {rdy : List Int} {rd : Value} {p q : Int}
theorem P2.subDict {ve ie : Expr} {a : Addr} {es : List (Int × Value)} {ep : Nat} {i : Int} {x : Value} {Q : Value → AH → Prop} (ha : H a = some (.dict es ep)) (hx : valueAt es i = some x) (h : ∀ v, er v = x → Q v H) (hs : isSlice ie = false := by rfl) : P2 C A E (subscriptTail ve ie) (.ref a) (.int i 0) H Q :=
  P2.tail (id := "dict.__getitem__") (fun s R => dict_type ha R) (by walk_at "tl") (P2.getDict ha hx h) hs
theorem P2.subList {ve ie : Expr} {a : Addr} {xs : List Value} {i : Int} {x : Value} {Q : Value → AH → Prop} (ha : H a = some (.list xs)) (h0 : 0 ≤ i) (hx : xs[i.toNat]? = some x) (hfit : i < 2 ^ 63) (h : ∀ v, er v = x → Q v H) (hs : isSlice ie = false := by rfl) : P2 C A E (subscriptTail ve ie) (.ref a) (.int i 0) H Q :=
  P2.tail (id := "list.__getitem__") (fun s R => list_type ha R) (by walk_at "tl") (P2.getList ha h0 hx hfit h) hs
theorem P2.subListNeg {ve ie : Expr} {a : Addr} {xs : List Value} {i : Int} {x : Value} {Q : Value → AH → Prop} (ha : H a = some (.list xs)) (h0 : i < 0) (h1 : -(xs.length : Int) ≤ i) (hx : xs[(i + xs.length).toNat]? = some x) (hfit : -(2 ^ 63) ≤ i) (h : ∀ v, er v = x → Q v H) (hs : isSlice ie = false := by rfl) : P2 C A E (subscriptTail ve ie) (.ref a) (.int i 0) H Q :=
  P2.tail (id := "list.__getitem__") (fun s R => list_type ha R) (by walk_at "tl") (P2.getListNeg ha h0 h1 hx hfit h) hs
theorem find_pv {n : Nd} (h : (N.map (·.v)).Nodup) (hn : n ∈ N) : (N.map pv).find? (fun y => decide (y.1 = n.v)) = some (pv n) := by
  induction N with
  | nil => cases hn
  | cons x t ih =>
    simp only [List.map_cons, List.nodup_cons] at h
    rw [List.map_cons, List.find?_cons]
    rcases List.mem_cons.mp hn with rfl | hn
    · simp [pv]
    · have : x.v ≠ n.v := fun e => h.1 (e ▸ List.mem_map.mpr ⟨n, hn, rfl⟩)
      simp only [pv, this, decide_false]
      exact ih h.2 hn
theorem npAt_pv {n : Nd} (h : (N.map (·.v)).Nodup) (hn : n ∈ N) : npAt (N.map pv) n.v = n.np := by unfold npAt; rw [find_pv h hn]; rfl
theorem suAt_pv {n : Nd} (h : (N.map (·.v)).Nodup) (hn : n ∈ N) : suAt (N.map pv) n.v = n.su := by unfold suAt; rw [find_pv h hn]; rfl
theorem pv_setP {n : Nd} (h : (N.map (·.v)).Nodup) (hn : n ∈ N) (x : Int) : (setNp N n.v x).map pv = setP (N.map pv) n.v x := by
  unfold setNp setP
  simp only [List.map_map]
  apply List.map_congr_left
  intro m hm
  simp only [Function.comp, pv]
  by_cases e : m.v = n.v <;> simp [e]
theorem setNp_same (N : List Nd) (i x : Int) : SameN N (setNp N i x) := let ⟨h1, h2, h3, _⟩ := setNp_proj N i x; ⟨h1, h2, h3⟩
theorem setNp_mem {N : List Nd} {i x : Int} {n : Nd} (hn : n ∈ N) (e : n.v = i) : { n with np := x } ∈ setNp N i x :=
  List.mem_map.mpr ⟨n, hn, by simp [e]⟩
theorem Srt.off {b : Addr} {o : AO} (S : Srt H a d0 d ep N rd p q) (hb : ¬ Foot a d N b) : Srt (upd H b o) a d0 d ep N rd p q :=
  S.keep fun c x hc hf => by rw [upd_ne _ _ (by rintro rfl; exact hb hf)]; exact hc
theorem Opn.rf (O : Opn H a d0 d ep r N rdy p q) : ¬ Foot a d N r := by
  rintro (e | e | ⟨n, hn, e | e⟩)
  · have := O.l; rw [e, O.s.inst] at this; cases this
  · have := O.l; rw [e, O.s.dict] at this; cases this
  · have := O.l; rw [e, O.s.node n hn] at this; cases this
  · exact O.nr n hn e.symm
theorem Opn.setNp (O : Opn H a d0 d ep r N rdy p q) {n : Nd} (hn : n ∈ N) (x : Int) : Opn (upd H n.a (ndObj { n with np := x })) a d0 d ep r (setNp N n.v x) rdy p q ∧ Fr (FootR a d r N) (FootR a d r N) H (upd H n.a (ndObj { n with np := x })) := by
  obtain ⟨S', E'⟩ := O.s.setNp hn x
  refine ⟨⟨S', ?_, fun m hm => ?_⟩, fun b o hb hf => ?_⟩
  · rw [upd_ne _ _ (by intro e; exact O.rf (.inr (.inr ⟨n, hn, .inl e⟩)))]; exact O.l
  · have h3 := (setNp_same N n.v x).2.2
    obtain ⟨m0, hm0, rfl⟩ := List.mem_map.mp hm
    have := O.nr m0 hm0
    split <;> exact this
  · exact ⟨(E' b o hb fun h => hf (.inl h)).1, hf⟩
theorem Opn.setR (O : Opn H a d0 d ep r N rdy p q) (ys : List Int) : Opn (upd H r (.list (ivs ys))) a d0 d ep r N ys p q ∧ Fr (FootR a d r N) (FootR a d r N) H (upd H r (.list (ivs ys))) :=
  ⟨⟨O.s.off O.rf, upd_self .., O.nr⟩, fun b o hb hf => ⟨by rw [upd_ne _ _ (by rintro rfl; exact hf (.inr rfl))]; exact hb, hf⟩⟩
theorem Opn.setF (O : Opn H a d0 d ep r N rdy p q) (p' q' : Int) : Opn (upd H a (.inst 137 d0 (flds d (.ref r) p' q') [])) a d0 d ep r N rdy p' q' ∧ Fr (FootR a d r N) (FootR a d r N) H (upd H a (.inst 137 d0 (flds d (.ref r) p' q') [])) := by
  have other : ∀ b o, H b = some o → b ≠ a → upd H a (.inst 137 d0 (flds d (.ref r) p' q') []) b = some o := fun b o hb hne => by rw [upd_ne _ _ hne]; exact hb
  refine ⟨⟨⟨upd_self .., other _ _ O.s.dict ?_, fun n hn => other _ _ (O.s.node n hn) ?_, fun n hn => other _ _ (O.s.list n hn) ?_, O.s.nv, O.s.na, O.s.ns, O.s.sz⟩, other _ _ O.l ?_, O.nr⟩, fun b o hb hf => ⟨other b o hb fun e => hf (.inl (.inl e)), hf⟩⟩
  · intro e; have := O.s.dict; rw [e, O.s.inst] at this; cases this
  · intro e; have := O.s.node n hn; rw [e, O.s.inst] at this; cases this
  · intro e; have := O.s.list n hn; rw [e, O.s.inst] at this; cases this
  · intro e; have := O.l; rw [e, O.s.inst] at this; cases this
theorem Opn.live (O : Opn H a d0 d ep r N rdy p q) {b : Addr} (hb : FootR a d r N b) : ∃ o, H b = some o := by
  rcases hb with (rfl | rfl | ⟨n, hn, rfl | rfl⟩) | rfl
  · exact ⟨_, O.s.inst⟩
  · exact ⟨_, O.s.dict⟩
  · exact ⟨_, O.s.node n hn⟩
  · exact ⟨_, O.s.list n hn⟩
  · exact ⟨_, O.l⟩
theorem Opn.off (O : Opn H a d0 d ep r N rdy p q) {b : Addr} (o : AO) (hb : ¬ FootR a d r N b) : Opn (upd H b o) a d0 d ep r N rdy p q :=
  ⟨O.s.off fun h => hb (.inl h), by rw [upd_ne _ _ (by rintro rfl; exact hb (.inr rfl))]; exact O.l, O.nr⟩
theorem Opn.fresh (O : Opn H a d0 d ep r N rdy p q) {b : Addr} (o : AO) (hb : H b = none) : Opn (upd H b o) a d0 d ep r N rdy p q ∧ Fr (FootR a d r N) (FootR a d r N) H (upd H b o) ∧ ¬ FootR a d r N b := by
  have hnb : ¬ FootR a d r N b := fun h => by obtain ⟨x, hx⟩ := O.live h; rw [hb] at hx; cases hx
  exact ⟨O.off o hnb, fun c x hc hf => ⟨upd_fresh hb c x hc, hf⟩, hnb⟩
theorem Opn.mono {H' : AH} (O : Opn H a d0 d ep r N rdy p q) (hk : ∀ b o, H b = some o → FootR a d r N b → H' b = some o) : Opn H' a d0 d ep r N rdy p q :=
  ⟨O.s.keep fun b o hb hf => hk b o hb (.inl hf), hk _ _ O.l (.inr rfl), O.nr⟩

theorem getReady (X : Ctx C) {k : Nat} (hA : AIn C A (k + 1)) (O : Opn H a d0 d ep r N rdy p q) (hm : ∀ i ∈ rdy, i ∈ N.map (·.v)) (hz : rdy.length ≤ 1000) {Q : Value → AH → Prop}
    (h : ∀ t N' H', Opn H' a d0 d ep r N' [] (p + rdy.length) q → N'.map pv = outP (N.map pv) rdy → SameN N N' → Fr (FootR a d r N) (FootR a d r N) H H' → H t = none → H' t = some (.tuple (ivs rdy)) → ¬ FootR a d r N t → Q (.ref t) H') :
    PC C A (.call (.ref 99) ⟨[.ref a], []⟩) H fun v H' => Q (er v) H' := by
  refine PC.fnP [("self", .ref a)] X.O hA (X.look rfl) (by walk_at "kk") rfl rfl rfl rfl rfl rfl rfl rfl rfl rfl ?_
  intro L f A' O' FS hA' hF
  have X' := X.push L
  simp only [locB, List.map_cons, List.map_nil, List.foldl_cons, List.foldl_nil]
  refine SW.hide fun RR hRR => ?_
  have hlen : (ivs rdy).length = rdy.length := by simp [ivs]
  walk_at "ww"
  refine P1.attr (cls137 X') O.s.inst rfl rfl rfl (by walk_at "tl") fun v ev => ?_
  rw [ev]
  walk_at "ww"
  refine P2.isNone ⟨_, rfl, ?_⟩
  refine SW.nil ?_
  walk_at "ww"
  refine P1.attr (cls137 X') O.s.inst rfl rfl rfl (by walk_at "tl") fun v ev => ?_
  rw [ev]
  walk_at "ww"
  refine ⟨KeepOk.type, CallP.tupleList O.l (by rw [hlen]; exact Nat.le_trans hz (by decide)) fun t ht => ?_⟩
  obtain ⟨O1, E1, nt⟩ := O.fresh (.tuple (ivs rdy)) ht
  have htt : upd H t (.tuple (ivs rdy)) t = some (.tuple (ivs rdy)) := upd_self ..
  generalize upd H t (.tuple (ivs rdy)) = H1 at O1 E1 htt ⊢
  walk_at "ww"
  refine P1.attr (cls137 X') O1.s.inst rfl rfl rfl (by walk_at "tl") fun v ev => ?_
  rw [ev]
  walk_at "ww"
  refine XW.for ?_
  walk_at "ww"
  refine ⟨ivs rdy, fun H => H t = some (.tuple (ivs rdy)), htt, IterP.tuple hA'.hd, ?_⟩
  refine ForW.invT (fun xs L H' => Ex2 fun rem N' => An10 (xs = ivs rem) (Opn H' a d0 d ep r N' rdy p q) (SameN N N') (Fr (FootR a d r N) (FootR a d r N) H H') (rem.foldl (fun P i => setP P i (-1)) (N'.map pv) = outP (N.map pv) rdy) (∀ i ∈ rem, i ∈ N.map (·.v)) (H' t = some (.tuple (ivs rdy))) (L "self" = some (.ref a)) (L "n2i" = some (.ref d)) (L "result" = some (.ref t))) ?_ ?_ ⟨rdy, N, rfl, O1, .refl, E1, rfl, hm, htt, by walk_at "wloc", by walk_at "wloc", by walk_at "wloc"⟩
  · rintro L1 H1 ⟨rem, N', e, O2, sn, E2, hf, _, ht2, hL1, hL2, hL3⟩
    cases rem with
    | cons _ _ => cases e
    | nil =>
      walk_at "ww"
      refine P1.attr (cls137 X') O2.s.inst rfl rfl rfl (by walk_at "tl") fun v ev => ?_
      rw [ev]
      refine MethP.list O2.l F.slot_list_clear F.type_list_clear ?_
      walk_at "ww"
      refine ⟨KeepOk.builtin, CallP.lclear O2.l (by rw [hlen]; exact Nat.le_trans hz (by decide)) ?_⟩
      obtain ⟨O3, E3⟩ := O2.setR []
      have ht3 := (E3 t _ ht2 (by rw [sn.foot]; exact nt)).1
      change SW _ _ _ _ _ _ (upd H1 r (.list (ivs []))) _
      generalize upd H1 r (.list (ivs [])) = H3 at O3 E3 ht3 ⊢
      walk_at "ww"
      refine P1.attr (cls137 X') O3.s.inst rfl rfl rfl (by walk_at "tl") fun v ev => ?_
      rw [ev]
      walk_at "ww"
      refine ⟨KeepOk.builtin, CallP.lenTuple ht3 (by rw [hlen]; lia) ?_⟩
      rw [hlen]
      refine P2.iadd fun t2 => ?_
      intro o' v' eo ev'
      have eo := er_ref eo; subst eo
      refine setAttr_inst (cls137 X') O3.s.inst rfl (by walk_at "tl") (show 4 ≤ 1000 by decide) ?_
      rw [ev']
      obtain ⟨O4, E4⟩ := O3.setF (p + rdy.length) q
      have ht4 := (E4 t _ ht3 (by rw [sn.foot]; exact nt)).1
      change SW _ _ _ _ _ _ (upd H3 _ (.inst 137 d0 (flds d (.ref r) (p + rdy.length) q) [])) _
      walk_at "ww"
      intro u eu
      refine hRR _ _ _ ?_
      show Q (er u) _
      rw [eu]
      refine h t N' _ O4 hf sn ?_ ht ht4 nt
      intro b o hb hfb
      have h2 := (E2 b o hb hfb).1
      have nf : ¬ FootR a d r N' b := by rw [sn.foot]; exact hfb
      exact ⟨(E4 b o (E3 b o h2 nf).1 nf).1, hfb⟩
  · rintro x xs L1 H1 T1 hT1 ⟨rem, N', e, O2, sn, E2, hf, hme, ht2, hL1, hL2, hL3⟩
    cases rem with
    | nil => cases e
    | cons j rem =>
      cases e
      have hj : j ∈ N'.map (·.v) := by rw [sn.1]; exact hme j List.mem_cons_self
      obtain ⟨m, hmN, rfl⟩ := List.mem_map.mp hj
      walk_at "ww"
      refine P2.subDict O2.s.dict (valueAt_n2i_some O2.s.nv hmN) (fun v ev => ?_)
      rw [ev]
      intro o' v' eo ev'
      have eo := er_ref eo; subst eo
      refine setAttr_slot (i := 1) (p := 42) O' FS.loc (O2.s.node m hmN) (by walk_at "kk") (by walk_at "kk") (by walk_at "kk") (by walk_at "kk") (by walk_at "kk") (by decide) ?_
      rw [ev']
      obtain ⟨O3, E3⟩ := O2.setNp hmN (-1)
      have ht3 := (E3 t _ ht2 (by rw [sn.foot]; exact nt)).1
      change SW _ _ _ _ _ _ (upd H1 m.a (ndObj { m with np := -1 })) _
      walk_at "ww"
      refine hT1 _ _ _ ⟨ht3, rem, _, rfl, O3, sn.trans (setNp_same _ _ _), ?_, ?_, fun i hi => hme i (List.mem_cons_of_mem _ hi), ht3, by walk_at "wloc", by walk_at "wloc", by walk_at "wloc"⟩
      · intro b o hb hfb
        exact ⟨(E3 b o (E2 b o hb hfb).1 (by rw [sn.foot]; exact hfb)).1, hfb⟩
      · rw [pv_setP O2.s.nv hmN]; exact hf
theorem isActive (X : Ctx C) {k : Nat} (hA : AIn C A (k + 1)) (O : Opn H a d0 d ep r N rdy p q) (hz : rdy.length ≤ 1000) {Q : Value → AH → Prop}
    (h : Q (.bool (decide (q < p) || !rdy.isEmpty)) H) :
    PC C A (.call (.ref 106) ⟨[.ref a], []⟩) H fun v H' => Q (er v) H' := by
  refine PC.fnP [("self", .ref a)] X.O hA (X.look rfl) (by walk_at "kk") rfl rfl rfl rfl rfl rfl rfl rfl rfl rfl ?_
  intro L f A' O' FS hA' hF
  have X' := X.push L
  simp only [locB, List.map_cons, List.map_nil, List.foldl_cons, List.foldl_nil]
  walk_at "ww"
  refine P1.attr (cls137 X') O.s.inst rfl rfl rfl (by walk_at "tl") fun v ev => ?_
  rw [ev]
  walk_at "ww"
  refine P2.isNone ⟨_, rfl, ?_⟩
  refine SW.nil ?_
  walk_at "ww"
  refine P1.attr (cls137 X') O.s.inst rfl rfl rfl (by walk_at "tl") fun v ev => ?_
  rw [ev]
  walk_at "ww"
  refine P1.attr (cls137 X') O.s.inst rfl rfl rfl (by walk_at "tl") fun v ev => ?_
  rw [ev]
  refine P2.lt (P1.truthy_bool ?_)
  cases e : decide (q < p) with
  | true =>
    rw [e] at h
    intro u eu
    show Q (er u) _
    rw [eu]; exact h
  | false =>
    rw [e] at h
    simp only [Bool.false_eq_true, if_false]
    walk_at "ww"
    refine P1.attr (cls137 X') O.s.inst rfl rfl rfl (by walk_at "tl") fun v ev => ?_
    rw [ev]
    walk_at "ww"
    refine ⟨KeepOk.type, CallP.boolList O.l (by simp [ivs]; lia) ?_⟩
    intro u eu
    show Q (er u) _
    rw [eu]
    have : (ivs rdy).isEmpty = rdy.isEmpty := by cases rdy <;> rfl
    rw [this]; exact h
end

section
variable {C : Cx} {A : Around} {E : Value → Shared → Prop} {H : AH} {a d0 d r : Addr} {ep : Nat} {N : List Nd} {rdy : List Int} {rd : Value} {p q : Int}
theorem keys_np (P : Pd) (i x : Int) : (npP P i x).map (·.1) = P.map (·.1) := by
  unfold npP; rw [List.map_map]; apply List.map_congr_left; intro y _; simp only [Function.comp]; split <;> rfl
theorem keys_set (P : Pd) (i x : Int) : (setP P i x).map (·.1) = P.map (·.1) := by
  unfold setP; rw [List.map_map]; apply List.map_congr_left; intro y _; simp only [Function.comp]; split <;> rfl
theorem rdy_rel : ∀ (ss : List Int) (st : Pd × List Int), (ss.foldl relP st).2.length ≤ st.2.length + ss.length
  | [], st => Nat.le_refl _
  | s :: ss, st => by
    have := rdy_rel ss (relP st s)
    rw [List.foldl_cons, List.length_cons]
    have h2 : (relP st s).2.length ≤ st.2.length + 1 := by unfold relP; dsimp only; split <;> simp
    lia
theorem Bd.set {P : Pd} {k : Nat} (h : Bd P k) (i j : Int) : Bd (setP P i j) k := by
  intro x hx
  obtain ⟨y, hy, rfl⟩ := List.mem_map.mp hx
  have := h y hy
  split <;> exact this
theorem Bd.rel {k : Nat} : ∀ {ss : List Int} {st : Pd × List Int}, Bd st.1 k → Bd (ss.foldl relP st).1 k
  | [], st, h => h
  | s :: ss, st, h => Bd.rel (ss := ss) (st := relP st s) (h.np s (-1))
theorem doneOk' (X : Ctx C) {k : Nat} (hA : AIn C A (k + 1)) (O : Opn H a d0 d ep r N rdy p q) {is : List Int} {vs : List Value} (hvs : vs.map er = ivs is) (hok : doneOk (N.map pv, rdy) is) (hz : ∀ js, js <+: is → (js.foldl doneP1 (N.map pv, rdy)).2.length ≤ 1000) (hbd : Bd (N.map pv) 1000) (hil : is.length ≤ 1000) {Q : Value → AH → Prop}
    (h : ∀ N' rdy' H', Opn H' a d0 d ep r N' rdy' p (q + is.length) → (N'.map pv, rdy') = is.foldl doneP1 (N.map pv, rdy) → SameN N N' → Fr (FootR a d r N) (FootR a d r N) H H' → Q .none H') :
    PC C A (.call (.ref 120) ⟨.ref a :: vs, []⟩) H fun v H' => Q (er v) H' := by
  refine PC.fnK X.O hA (X.look rfl) (by walk_at "kk") rfl rfl rfl rfl rfl rfl rfl rfl ?_
  rw [show bindArgs _ ⟨.ref a :: vs, []⟩ = (do let t ← newTuple vs; pure [("self", Value.ref a), ("nodes", t)]) by cases vs <;> kernel_rfl]
  have hlen : vs.length = is.length := by have := congrArg List.length hvs; simpa [ivs] using this
  refine PW.bind (PW.newTuple (fun t ht => ?_) (by rw [hlen]; exact Nat.le_trans hil (by decide)))
  refine PW.pure ⟨rfl, ?_⟩
  intro L f A' O' FS hA' hF
  have X' := X.push L
  simp only [locB, List.map_cons, List.map_nil, List.foldl_cons, List.foldl_nil]
  refine SW.hide fun RR hRR => ?_
  rw [hvs]
  obtain ⟨O1, E1, nt⟩ := O.fresh (.tuple (ivs is)) ht
  have htt : upd H t (.tuple (ivs is)) t = some (.tuple (ivs is)) := upd_self ..
  generalize upd H t (.tuple (ivs is)) = H1 at O1 E1 htt ⊢
  walk_at "ww"
  refine P1.attr (cls137 X') O1.s.inst rfl rfl rfl (by walk_at "tl") fun v ev => ?_
  rw [ev]
  walk_at "ww"
  refine P2.isNone ⟨_, rfl, ?_⟩
  refine SW.nil ?_
  walk_at "ww"
  refine P1.attr (cls137 X') O1.s.inst rfl rfl rfl (by walk_at "tl") fun v ev => ?_
  rw [ev]
  walk_at "ww"
  refine XW.for ?_
  walk_at "ww"
  refine ⟨ivs is, fun H => H t = some (.tuple (ivs is)), htt, IterP.tuple hA'.hd, ?_⟩
  refine ForW.invT (fun xs L H' => Ex4 fun pre rem N' rdy' => An11 (is = pre ++ rem) (xs = ivs rem) (Opn H' a d0 d ep r N' rdy' p (q + pre.length)) (SameN N N') (Fr (FootR a d r N) (FootR a d r N) H H') ((N'.map pv, rdy') = pre.foldl doneP1 (N.map pv, rdy)) (doneOk (N'.map pv, rdy') rem) (Bd (N'.map pv) 1000) (H' t = some (.tuple (ivs is))) (L "self" = some (.ref a)) (L "n2i" = some (.ref d))) ?_ ?_ ⟨[], is, N, rdy, rfl, rfl, by simpa using O1, .refl, E1, rfl, hok, hbd, htt, by walk_at "wloc", by walk_at "wloc"⟩
  · rintro L1 H1 ⟨pre, rem, N', rdy', ei, e, O2, sn, E2, hf, _, _, ht2, hL1, hL2⟩
    cases rem with
    | cons _ _ => cases e
    | nil =>
      rw [List.append_nil] at ei; subst ei
      walk_at "ww"
      refine hRR _ _ _ ?_
      exact h N' rdy' H1 O2 hf sn E2
  · rintro x xs L1 H1 T1 hT1 ⟨pre, rem, N', rdy', ei, e, O2, sn, E2, hf, hok2, hbd2, ht2, hL1, hL2⟩
    cases rem with
    | nil => cases e
    | cons j rem =>
      cases e
      obtain ⟨hj, hnp, hsu, hok3⟩ := hok2
      rw [pv_fst] at hj
      obtain ⟨m, hmN, rfl⟩ := List.mem_map.mp hj
      rw [npAt_pv O2.s.nv hmN] at hnp
      rw [suAt_pv O2.s.nv hmN] at hsu
      walk_at "ww"
      refine MethP.dict O2.s.dict F.slot_dict_get F.type_dict_get ?_
      walk_at "ww"
      refine ⟨KeepOk.builtin, CallP.dget O2.s.dict ?_⟩
      rw [valueAt_n2i_some O2.s.nv hmN]
      walk_at "ww"
      refine P2.isNone ⟨_, rfl, ?_⟩
      refine SW.nil ?_
      walk_at "ww"
      refine P1.slot (p := 42) (i := 1) O' (O2.s.node m hmN) (by walk_at "kk") (by walk_at "kk") (fun od => by rw [X'.K]; rfl) (by walk_at "kk") rfl rfl fun v ev => ?_
      rw [ev]
      walk_at "ww"
      refine P2.ne ⟨_, rfl, ?_⟩
      rw [hnp]
      refine SW.nil ?_
      walk_at "ww"
      intro o' v' eo ev'
      have eo := er_ref eo; subst eo
      refine setAttr_slot (i := 1) (p := 42) O' FS.loc (O2.s.node m hmN) (by walk_at "kk") (by walk_at "kk") (by walk_at "kk") (by walk_at "kk") (by walk_at "kk") (by decide) ?_
      rw [ev']
      obtain ⟨O3, E3⟩ := O2.setNp hmN (-2)
      have sn3 := sn.trans (setNp_same N' m.v (-2))
      have ht3 := (E3 t _ ht2 (by rw [sn.foot]; exact nt)).1
      have hm3 : { m with np := -2 } ∈ Mine.setNp N' m.v (-2) := setNp_mem hmN rfl
      have hp3 : (Mine.setNp N' m.v (-2)).map pv = setP (N'.map pv) m.v (-2) := pv_setP O2.s.nv hmN (-2)
      have E3' : Fr (FootR a d r N) (FootR a d r N) H (upd H1 m.a (ndObj { m with np := -2 })) := fun b o hb hfb => ⟨(E3 b o (E2 b o hb hfb).1 (by rw [sn.foot]; exact hfb)).1, hfb⟩
      change SW _ _ _ _ _ _ (upd H1 m.a (ndObj { m with np := -2 })) _
      generalize upd H1 m.a (ndObj { m with np := -2 }) = H3 at O3 E3' ht3 ⊢
      generalize Mine.setNp N' m.v (-2) = N3 at O3 sn3 hm3 hp3
      walk_at "ww"
      refine XW.for ?_
      walk_at "ww"
      refine P1.slot (p := 43) (i := 2) O' (O3.s.node { m with np := -2 } hm3) (by walk_at "kk") (by walk_at "kk") (fun od => by rw [X'.K]; rfl) (by walk_at "kk") rfl rfl fun v ev => ?_
      rw [ev]
      have hl3 := O3.s.list _ hm3
      refine ⟨ivs m.su, fun H => H m.s = some (.list (ivs m.su)), hl3, IterP.list hA'.hd, ?_⟩
      have hst : (suAt (N'.map pv) m.v).foldl relP (setP (N'.map pv) m.v (-2), rdy') = (pre ++ [m.v]).foldl doneP1 (N.map pv, rdy) := by
        rw [List.foldl_append, ← hf]; rfl
      rw [suAt_pv O2.s.nv hmN] at hst
      have hok3' : doneOk (m.su.foldl relP (setP (N'.map pv) m.v (-2), rdy')) rem := by
        have := hok3
        unfold doneP1 at this
        rw [suAt_pv O2.s.nv hmN] at this; exact this
      have hzz : rdy'.length ≤ 1000 := by
        have := hz pre ⟨_, ei.symm⟩
        rw [← hf] at this; exact this
      have hbm : m.su.length ≤ 1000 := hbd2 (pv m) (List.mem_map.mpr ⟨m, hmN, rfl⟩)
      refine ForW.invT (fun xs L H' => Ex4 fun done rem2 N4 rdy4 => An10 (m.su = done ++ rem2) (xs = ivs rem2) (Opn H' a d0 d ep r N4 rdy4 p (q + pre.length)) (SameN N N4) (Fr (FootR a d r N) (FootR a d r N) H H') ((N4.map pv, rdy4) = done.foldl relP (setP (N'.map pv) m.v (-2), rdy')) (H' t = some (.tuple (ivs is))) (H' m.s = some (.list (ivs m.su))) (L "self" = some (.ref a)) (L "n2i" = some (.ref d))) ?_ ?_ ⟨[], m.su, N3, rdy', rfl, rfl, O3, sn3, E3', by rw [hp3]; rfl, ht3, hl3, by walk_at "wloc", by walk_at "wloc"⟩
      · rintro L5 H5 ⟨done, rem2, N5, rdy5, es, e, O5, sn5, E5, hf5, ht5, hl5, hM1, hM2⟩
        cases rem2 with
        | cons _ _ => cases e
        | nil =>
          rw [List.append_nil] at es; subst es
          walk_at "ww"
          refine P1.attr (cls137 X') O5.s.inst rfl rfl rfl (by walk_at "tl") fun v ev => ?_
          rw [ev]
          walk_at "ww"
          refine P2.iadd fun t2 => ?_
          intro o' v' eo ev'
          have eo := er_ref eo; subst eo
          refine setAttr_inst (cls137 X') O5.s.inst rfl (by walk_at "tl") (show 4 ≤ 1000 by decide) ?_
          rw [ev']
          obtain ⟨O6, E6⟩ := O5.setF p (q + pre.length + 1)
          have ht6 := (E6 t _ ht5 (by rw [sn5.foot]; exact nt)).1
          change SW _ _ _ _ _ _ (upd H5 _ (.inst 137 d0 (flds d (.ref r) p (q + pre.length + 1)) [])) _
          walk_at "ww"
          refine hT1 _ _ _ ⟨ht6, pre ++ [m.v], rem, N5, rdy5, by rw [ei]; simp, rfl, ?_, sn5, ?_, by rw [hf5]; exact hst, by rw [hf5]; exact hok3', ?_, ht6, by walk_at "wloc", by walk_at "wloc"⟩
          · have : q + ((pre ++ [m.v]).length : Int) = q + pre.length + 1 := by simp; lia
            rw [this]; exact O6
          · intro b o hb hfb
            exact ⟨(E6 b o (E5 b o hb hfb).1 (by rw [sn5.foot]; exact hfb)).1, hfb⟩
          · have hB1 : Bd (setP (N'.map pv) m.v (-2)) 1000 := Bd.set hbd2 _ _
            have := Bd.rel (ss := m.su) (st := (setP (N'.map pv) m.v (-2), rdy')) hB1
            rw [← hf5] at this; exact this
      · rintro x xs L5 H5 T2 hT2 ⟨done, rem2, N5, rdy5, es, e, O5, sn5, E5, hf5, ht5, hl5, hM1, hM2⟩
        cases rem2 with
        | nil => cases e
        | cons j2 rem2 =>
          cases e
          have hj2 : j2 ∈ N5.map (·.v) := by
            have := hsu j2 (by rw [es]; simp)
            rw [pv_fst, sn.1] at this
            rw [sn5.1]; exact this
          obtain ⟨w, hwN, rfl⟩ := List.mem_map.mp hj2
          walk_at "ww"
          refine P2.subDict O5.s.dict (valueAt_n2i_some O5.s.nv hwN) (fun v ev => ?_)
          rw [ev]
          walk_at "ww"
          refine P1.slot (p := 42) (i := 1) O' (O5.s.node w hwN) (by walk_at "kk") (by walk_at "kk") (fun od => by rw [X'.K]; rfl) (by walk_at "kk") rfl rfl fun v ev => ?_
          rw [ev]
          walk_at "ww"
          refine P2.isub fun t2 => ?_
          intro o' v' eo ev'
          have eo := er_ref eo; subst eo
          refine setAttr_slot (i := 1) (p := 42) O' FS.loc (O5.s.node w hwN) (by walk_at "kk") (by walk_at "kk") (by walk_at "kk") (by walk_at "kk") (by walk_at "kk") (by decide) ?_
          rw [ev']
          obtain ⟨O6, E6⟩ := O5.setNp hwN (w.np - 1)
          have sn6 := sn5.trans (setNp_same N5 w.v (w.np - 1))
          have ht6 := (E6 t _ ht5 (by rw [sn5.foot]; exact nt)).1
          have hw6 : { w with np := w.np - 1 } ∈ Mine.setNp N5 w.v (w.np - 1) := setNp_mem hwN rfl
          have hp6 : (Mine.setNp N5 w.v (w.np - 1)).map pv = npP (N5.map pv) w.v (-1) := pv_setNp O5.s.nv hwN (-1)
          have E6' : Fr (FootR a d r N) (FootR a d r N) H (upd H5 w.a (ndObj { w with np := w.np - 1 })) := fun b o hb hfb => ⟨(E6 b o (E5 b o hb hfb).1 (by rw [sn5.foot]; exact hfb)).1, hfb⟩
          have hl6 : upd H5 w.a (ndObj { w with np := w.np - 1 }) m.s = some (.list (ivs m.su)) := by
            rw [upd_ne _ _ (by first | exact no_some (hl5) (O5.s.node w hwN) | exact no_some (O5.s.node w hwN) (hl5) | exact (no_some (hl5) (O5.s.node w hwN)).symm | exact (no_some (O5.s.node w hwN) (hl5)).symm | exact two_ne (hl5) (O5.s.node w hwN) (by intro q; cases q; done) | exact (two_ne (hl5) (O5.s.node w hwN) (by intro q; cases q; done)).symm | (intro e; rw [e, O5.s.node w hwN] at hl5; cases hl5))]; exact hl5
          change SW _ _ _ _ _ _ (upd H5 w.a (ndObj { w with np := w.np - 1 })) _
          generalize upd H5 w.a (ndObj { w with np := w.np - 1 }) = H6 at O6 E6' ht6 hl6 ⊢
          generalize Mine.setNp N5 w.v (w.np - 1) = N6 at O6 sn6 hw6 hp6
          walk_at "ww"
          refine P1.slot (p := 42) (i := 1) O' (O6.s.node { w with np := w.np - 1 } hw6) (by walk_at "kk") (by walk_at "kk") (fun od => by rw [X'.K]; rfl) (by walk_at "kk") rfl rfl fun v ev => ?_
          rw [ev]
          walk_at "ww"
          refine P2.eq ⟨_, rfl, ?_⟩
          have hst6 : (npP (N5.map pv) w.v (-1), if npAt (npP (N5.map pv) w.v (-1)) w.v = 0 then rdy5 ++ [w.v] else rdy5) = (done ++ [w.v]).foldl relP (setP (N'.map pv) m.v (-2), rdy') := by
            rw [List.foldl_append, ← hf5]; rfl
          have hnw : npAt (npP (N5.map pv) w.v (-1)) w.v = w.np - 1 := by
            rw [← hp6]; exact npAt_pv O6.s.nv hw6
          rw [hnw] at hst6
          have hz5 : rdy5.length ≤ 2000 := by
            have h1 := rdy_rel done (setP (N'.map pv) m.v (-2), rdy')
            rw [← hf5] at h1
            have h2 : done.length ≤ m.su.length := by rw [es]; simp
            simp only at h1; lia
          by_cases hz0 : w.np - 1 = 0
          · rw [if_pos (beq_iff_eq.mpr hz0)]
            rw [if_pos hz0] at hst6
            walk_at "ww"
            refine P1.attr (cls137 X') O6.s.inst rfl rfl rfl (by walk_at "tl") fun v ev => ?_
            rw [ev]
            refine MethP.list O6.l F.slot_list_append F.type_list_append ?_
            walk_at "ww"
            refine ⟨KeepOk.builtin, CallP.lappend O6.l (by simp only [ivs, List.length_map]; exact Nat.le_trans hz5 (by decide)) ?_⟩
            obtain ⟨O7, E7⟩ := O6.setR (rdy5 ++ [w.v])
            have ht7 := (E7 t _ ht6 (by rw [sn6.foot]; exact nt)).1
            have hl7 : upd H6 r (.list (ivs (rdy5 ++ [w.v]))) m.s = some (.list (ivs m.su)) := by
              rw [upd_ne _ _ ?_]
              · exact hl6
              · intro e
                have : m.s ∈ N6.map (·.s) := by rw [sn6.2.2, ← sn.2.2]; exact List.mem_map.mpr ⟨m, hmN, rfl⟩
                obtain ⟨m6, hm6, e6⟩ := List.mem_map.mp this
                exact O6.nr m6 hm6 (e6.trans e)
            rw [show ivs rdy5 ++ [Value.int w.v 0] = ivs (rdy5 ++ [w.v]) by simp [ivs]]
            walk_at "ww"
            refine hT2 _ _ _ ⟨hl7, done ++ [w.v], rem2, N6, rdy5 ++ [w.v], by rw [es]; simp, rfl, O7, sn6, ?_, by rw [hp6]; exact hst6, ht7, hl7, by walk_at "wloc", by walk_at "wloc"⟩
            intro b o hb hfb
            exact ⟨(E7 b o (E6' b o hb hfb).1 (by rw [sn6.foot]; exact hfb)).1, hfb⟩
          · rw [if_neg (fun e => hz0 (beq_iff_eq.mp e))]
            rw [if_neg hz0] at hst6
            walk_at "ww"
            exact hT2 _ _ _ ⟨hl6, done ++ [w.v], rem2, N6, rdy5, by rw [es]; simp, rfl, O6, sn6, E6', by rw [hp6]; exact hst6, ht6, hl6, by walk_at "wloc", by walk_at "wloc"⟩
end

theorem last_ix (n : Nat) : (-1 + ((n : Int) + 1)).toNat = n := by rw [Int.add_comm, Int.add_neg_cancel_right]; rfl
theorem pick_le {xs : List Value} {n : Nat} {lo hi : Option Int} (h : xs.length ≤ n) : (pick xs lo hi).length ≤ n := by
  unfold pick
  rw [List.length_take]
  refine Nat.le_trans (Nat.min_le_right _ _) ?_
  rw [List.length_drop]
  exact Nat.le_trans (Nat.sub_le ..) h
set_option genInjectivity false in
structure Ent where
  v : Int
  m : Addr
  it : Addr
  l : Addr
  i : Nat
  su : List Int
noncomputable def Epos : List Ent → List (Int × Value)
  | [] => []
  | e :: t => Epos t ++ [(e.v, .int t.length 0)]
noncomputable def Okc (P : Int → Prop) : Option Int → List Ent → Prop
  | _, [] => True
  | last, e :: t => (∀ s ∈ e.su.take e.i, P s ∨ some s = last) ∧ Okc P (some e.v) t
noncomputable def fin (sn : List Int) (T : List Ent) (x : Int) : Prop := x ∈ sn ∧ x ∉ T.map (·.v)
noncomputable def uns (N : List Nd) (sn : List Int) : Nat := (N.map fun n => if n.v ∈ sn then 0 else n.su.length + 2).sum
noncomputable def wts (T : List Ent) : Nat := (T.map fun e => e.su.length - e.i + 1).sum
set_option genInjectivity false in
structure DF (H0 H : AH) (N : List Nd) (st its se nd : Addr) (T : List Ent) (sn : List Int) : Prop where
  old : ∀ b o, H0 b = some o → H b = some o
  hst : H st = some (.list (ivs (T.reverse.map (·.v))))
  hits : H its = some (.list (T.reverse.map fun e => .ref e.m))
  hse : H se = some (.set sn)
  hnd : ∃ ep, H nd = some (.dict (Epos T) ep)
  n1 : st ≠ its
  f1 : H0 st = none
  f2 : H0 its = none
  f3 : H0 se = none
  f4 : H0 nd = none
  hm : ∀ e ∈ T, H e.m = some (.obj (wrapObj e.it))
  hit : ∀ e ∈ T, H e.it = some (.liter e.l e.i)
  fi : ∀ e ∈ T, H0 e.it = none
  nit : (T.map (·.it)).Nodup
  hl : ∀ e ∈ T, ∃ n ∈ N, n.v = e.v ∧ n.s = e.l ∧ n.su = e.su
  hsn : ∀ e ∈ T, e.v ∈ sn
  nv : (T.map (·.v)).Nodup
  ssub : ∀ x ∈ sn, x ∈ N.map (·.v)
  snd : sn.Nodup
  hi : ∀ e ∈ T, e.i ≤ e.su.length
section
variable {C : Cx} {A : Around} {E : Value → Shared → Prop} {H H0 : AH} {a d0 d r : Addr} {ep : Nat} {N : List Nd} {rdy : List Int} {rd : Value} {p q : Int} {st its se nd : Addr} {T : List Ent} {sn : List Int}
theorem Okc.mono {P P' : Int → Prop} (h : ∀ x, P x → P' x) : ∀ {T : List Ent} {last : Option Int}, Okc P last T → Okc P' last T
  | [], _, _ => trivial
  | e :: t, last, ⟨h1, h2⟩ => ⟨fun s hs => (h1 s hs).imp (h s) id, Okc.mono h h2⟩
theorem Okc.drop {P : Int → Prop} {T : List Ent} {v : Int} (h : Okc P (some v) T) (hv : P v) : Okc P none T := by
  cases T with
  | nil => trivial
  | cons e t =>
    refine ⟨fun s hs => ?_, h.2⟩
    rcases h.1 s hs with h | h
    · exact .inl h
    · cases h; exact .inl hv
theorem Epos_keys : ∀ (T : List Ent), (Epos T).map (·.1) = T.reverse.map (·.v)
  | [] => rfl
  | e :: t => by simp [Epos, Epos_keys t]
theorem valueAt_none {es : List (Int × Value)} {x : Int} (h : x ∉ es.map (·.1)) : valueAt es x = none := by
  unfold valueAt
  rw [List.find?_eq_none.mpr]
  · rfl
  · intro kv hkv e
    exact h (List.mem_map.mpr ⟨kv, hkv, of_decide_eq_true e⟩)
theorem valueAt_Epos {T : List Ent} {x : Int} (h : x ∈ T.map (·.v)) : ∃ j : Nat, valueAt (Epos T) x = some (.int j 0) := by
  induction T with
  | nil => cases h
  | cons e t ih =>
    unfold Epos
    by_cases hx : x ∈ t.map (·.v)
    · obtain ⟨j, hj⟩ := ih hx
      refine ⟨j, ?_⟩
      unfold valueAt at hj ⊢
      rw [List.find?_append]
      cases hf : (Epos t).find? (fun kv => decide (kv.1 = x)) with
      | none => rw [hf] at hj; cases hj
      | some y => rw [hf] at hj; exact hj
    · have he : e.v = x := by
        rcases List.mem_cons.mp h with h | h
        · exact h.symm
        · exact absurd h hx
      refine ⟨t.length, ?_⟩
      unfold valueAt
      rw [List.find?_append]
      have : (Epos t).find? (fun kv => decide (kv.1 = x)) = none := by
        rw [List.find?_eq_none]
        intro kv hkv hd
        have hd := of_decide_eq_true hd
        have : kv.1 ∈ (Epos t).map (·.1) := List.mem_map.mpr ⟨kv, hkv, rfl⟩
        rw [Epos_keys, hd] at this
        simp at this
        exact hx (by simpa using this)
      rw [this]
      simp [he]
theorem Epos_len (T : List Ent) : (Epos T).length = T.length := by
  have := congrArg List.length (Epos_keys T)
  simpa using this
theorem stored_new {es : List (Int × Value)} {x : Int} {v : Value} (h : x ∉ es.map (·.1)) : stored es x v = es ++ [(x, v)] := by
  unfold stored
  have : es.any (fun kv => decide (kv.1 = x)) = false := by
    rw [List.any_eq_false]
    intro kv hkv e
    exact h (List.mem_map.mpr ⟨kv, hkv, of_decide_eq_true e⟩)
  rw [this]; rfl
theorem without_Epos {e : Ent} {t : List Ent} (h : e.v ∉ t.map (·.v)) : without (Epos (e :: t)) e.v = Epos t := by
  show (Epos t ++ [(e.v, Value.int t.length 0)]).filter _ = Epos t
  rw [List.filter_append]
  have h1 : (Epos t).filter (fun kv => decide (kv.1 ≠ e.v)) = Epos t := by
    rw [List.filter_eq_self]
    intro kv hkv
    simp only [decide_eq_true_eq]
    intro e'
    have : kv.1 ∈ (Epos t).map (·.1) := List.mem_map.mpr ⟨kv, hkv, rfl⟩
    rw [Epos_keys, e'] at this
    exact h (by simpa using this)
  rw [h1]
  simp
theorem uns_add {n : Nd} (hn : n ∈ N) {sn : List Int} (h : n.v ∉ sn) : uns N (n.v :: sn) + (n.su.length + 2) ≤ uns N sn := by
  unfold uns
  have le : ∀ (M : List Nd), (M.map fun m => if m.v ∈ n.v :: sn then 0 else m.su.length + 2).sum ≤ (M.map fun m => if m.v ∈ sn then 0 else m.su.length + 2).sum := by
    intro M
    induction M with
    | nil => exact Nat.le_refl _
    | cons x M ih =>
      simp only [List.map_cons, List.sum_cons]
      have : (if x.v ∈ n.v :: sn then 0 else x.su.length + 2) ≤ (if x.v ∈ sn then 0 else x.su.length + 2) := by
        by_cases h1 : x.v ∈ sn
        · simp [h1]
        · by_cases h2 : x.v = n.v
          · simp [h2]
          · simp [h1, h2]
      lia
  induction N with
  | nil => cases hn
  | cons x M ih =>
    simp only [List.map_cons, List.sum_cons]
    rcases List.mem_cons.mp hn with rfl | hn
    · have := le M
      simp only [List.mem_cons, true_or, if_true, h, if_false]
      simp only [List.mem_cons] at this
      lia
    · have := ih hn
      have h3 : (if x.v ∈ n.v :: sn then 0 else x.su.length + 2) ≤ (if x.v ∈ sn then 0 else x.su.length + 2) := by
        by_cases h1 : x.v ∈ sn
        · simp [h1]
        · by_cases h2 : x.v = n.v
          · simp [h2]
          · simp [h1, h2]
      lia
theorem nodup_len {l m : List Int} (h : l.Nodup) (hs : ∀ x ∈ l, x ∈ m) : l.length ≤ m.length := by
  induction l generalizing m with
  | nil => simp
  | cons x l ih =>
    rw [List.nodup_cons] at h
    have hx := hs x List.mem_cons_self
    have := ih (m := m.erase x) h.2 fun y hy => (List.mem_erase_of_ne (by rintro rfl; exact h.1 hy)).mpr (hs y (List.mem_cons_of_mem _ hy))
    rw [List.length_erase_of_mem hx] at this
    have : 0 < m.length := List.length_pos_of_mem hx
    simp only [List.length_cons]; lia
theorem DF.push (D : DF H0 H N st its se nd T sn) {H' : AH} {n : Nd} (hn : n ∈ N) (hv : n.v ∉ sn) {m it : Addr} {ep : Nat} (h1 : H it = none) (h3 : it ≠ m)
    (k : ∀ b o, H b = some o → b ≠ se → b ≠ its → b ≠ nd → b ≠ st → H' b = some o)
    (e1 : H' st = some (.list (ivs (T.reverse.map (·.v) ++ [n.v])))) (e2 : H' its = some (.list ((T.reverse.map fun e => .ref e.m) ++ [.ref m]))) (e3 : H' se = some (.set (n.v :: sn))) (e4 : H' nd = some (.dict (Epos T ++ [(n.v, .int T.length 0)]) ep))
    (e5 : H' m = some (.obj (wrapObj it))) (e6 : H' it = some (.liter n.s 0)) : DF H0 H' N st its se nd (⟨n.v, m, it, n.s, 0, n.su⟩ :: T) (n.v :: sn) := by
  obtain ⟨ep0, hnd⟩ := D.hnd
  have kk : ∀ b o, H b = some o → (∀ x, o ≠ .list x) → (∀ x, o ≠ .set x) → (∀ x y, o ≠ .dict x y) → H' b = some o := fun b o hb a1 a2 a3 =>
    k b o hb (by rintro rfl; rw [D.hse] at hb; cases hb; exact a2 _ rfl) (by rintro rfl; rw [D.hits] at hb; cases hb; exact a1 _ rfl) (by rintro rfl; rw [hnd] at hb; cases hb; exact a3 _ _ rfl) (by rintro rfl; rw [D.hst] at hb; cases hb; exact a1 _ rfl)
  have h0it : H0 it = none := by
    cases e : H0 it with
    | none => rfl
    | some o => rw [D.old _ _ e] at h1; cases h1
  refine { old := fun b o hb => k b o (D.old b o hb) (by first | exact no_some (D.f3) hb | exact (no_some (D.f3) hb).symm | exact no_some hb (D.f3) | exact (no_some hb (D.f3)).symm | exact two_ne (D.f3) hb (by intro q; cases q; done) | exact (two_ne (D.f3) hb (by intro q; cases q; done)).symm | (rintro rfl; rw [D.f3] at hb; cases hb)) (by first | exact no_some (D.f2) hb | exact (no_some (D.f2) hb).symm | exact no_some hb (D.f2) | exact (no_some hb (D.f2)).symm | exact two_ne (D.f2) hb (by intro q; cases q; done) | exact (two_ne (D.f2) hb (by intro q; cases q; done)).symm | (rintro rfl; rw [D.f2] at hb; cases hb)) (by first | exact no_some (D.f4) hb | exact (no_some (D.f4) hb).symm | exact no_some hb (D.f4) | exact (no_some hb (D.f4)).symm | exact two_ne (D.f4) hb (by intro q; cases q; done) | exact (two_ne (D.f4) hb (by intro q; cases q; done)).symm | (rintro rfl; rw [D.f4] at hb; cases hb)) (by first | exact no_some (D.f1) hb | exact (no_some (D.f1) hb).symm | exact no_some hb (D.f1) | exact (no_some hb (D.f1)).symm | exact two_ne (D.f1) hb (by intro q; cases q; done) | exact (two_ne (D.f1) hb (by intro q; cases q; done)).symm | (rintro rfl; rw [D.f1] at hb; cases hb)),
           hst := by simpa using e1, hits := by simpa using e2, hse := e3, hnd := ⟨ep, e4⟩, n1 := D.n1, f1 := D.f1, f2 := D.f2, f3 := D.f3, f4 := D.f4, hm := ?_, hit := ?_, fi := ?_, nit := ?_, hl := ?_, hsn := ?_, nv := ?_, ssub := ?_, snd := ?_, hi := ?_ }
  · intro e he
    rcases List.mem_cons.mp he with rfl | he
    · exact e5
    · exact kk _ _ (D.hm e he) (by simp) (by simp) (by simp)
  · intro e he
    rcases List.mem_cons.mp he with rfl | he
    · exact e6
    · exact kk _ _ (D.hit e he) (by simp) (by simp) (by simp)
  · intro e he
    rcases List.mem_cons.mp he with rfl | he
    · exact h0it
    · exact D.fi e he
  · simp only [List.map_cons, List.nodup_cons]
    refine ⟨fun hm => ?_, D.nit⟩
    obtain ⟨e, he, ee⟩ := List.mem_map.mp hm
    have := D.hit e he
    rw [show e.it = it from ee, h1] at this; cases this
  · intro e he
    rcases List.mem_cons.mp he with rfl | he
    · exact ⟨n, hn, rfl, rfl, rfl⟩
    · exact D.hl e he
  · intro e he
    rcases List.mem_cons.mp he with rfl | he
    · exact List.mem_cons_self
    · exact List.mem_cons_of_mem _ (D.hsn e he)
  · simp only [List.map_cons, List.nodup_cons]
    refine ⟨fun hm => ?_, D.nv⟩
    obtain ⟨e, he, ee⟩ := List.mem_map.mp hm
    exact hv (by rw [← show e.v = n.v from ee]; exact D.hsn e he)
  · intro x hx
    rcases List.mem_cons.mp hx with rfl | hx
    · exact List.mem_map.mpr ⟨n, hn, rfl⟩
    · exact D.ssub x hx
  · exact List.nodup_cons.mpr ⟨hv, D.snd⟩
  · intro e he
    rcases List.mem_cons.mp he with rfl | he
    · exact Nat.zero_le _
    · exact D.hi e he
theorem DF.step {e : Ent} {t : List Ent} (D : DF H0 H N st its se nd (e :: t) sn) (hlt : e.i < e.su.length) : DF H0 (upd H e.it (.liter e.l (e.i + 1))) N st its se nd ({ e with i := e.i + 1 } :: t) sn := by
  obtain ⟨ep, hnd⟩ := D.hnd
  have hie := D.hit e List.mem_cons_self
  have k : ∀ b o, H b = some o → (∀ x y, o ≠ .liter x y) → upd H e.it (.liter e.l (e.i + 1)) b = some o := fun b o hb hne => by
    rw [upd_ne _ _ (by rintro rfl; rw [hie] at hb; cases hb; exact hne _ _ rfl)]; exact hb
  refine { D with old := fun b o hb => ?_, hst := by have h := k _ _ D.hst (by simp); simpa using h, hits := by have h := k _ _ D.hits (by simp); simpa using h, hse := k _ _ D.hse (by simp), hnd := ⟨ep, k _ _ hnd (by simp)⟩, hm := ?_, hit := ?_, fi := ?_, hl := ?_, hsn := ?_, hi := ?_ }
  · rw [upd_ne _ _ (by first | exact no_some (D.fi e List.mem_cons_self) hb | exact (no_some (D.fi e List.mem_cons_self) hb).symm | exact no_some hb (D.fi e List.mem_cons_self) | exact (no_some hb (D.fi e List.mem_cons_self)).symm | exact two_ne (D.fi e List.mem_cons_self) hb (by intro q; cases q; done) | exact (two_ne (D.fi e List.mem_cons_self) hb (by intro q; cases q; done)).symm | (rintro rfl; rw [D.fi e List.mem_cons_self] at hb; cases hb))]; exact D.old b o hb
  · intro e' he
    rcases List.mem_cons.mp he with rfl | he
    · exact k _ _ (D.hm e List.mem_cons_self) (by simp)
    · exact k _ _ (D.hm e' (List.mem_cons_of_mem _ he)) (by simp)
  · intro e' he
    rcases List.mem_cons.mp he with rfl | he
    · exact upd_self ..
    · have := D.nit
      simp only [List.map_cons, List.nodup_cons] at this
      rw [upd_ne _ _ (by intro ee; exact this.1 (List.mem_map.mpr ⟨e', he, ee⟩))]
      exact D.hit e' (List.mem_cons_of_mem _ he)
  · intro e' he
    rcases List.mem_cons.mp he with rfl | he
    · exact D.fi e List.mem_cons_self
    · exact D.fi e' (List.mem_cons_of_mem _ he)
  · intro e' he
    rcases List.mem_cons.mp he with rfl | he
    · exact D.hl e List.mem_cons_self
    · exact D.hl e' (List.mem_cons_of_mem _ he)
  · intro e' he
    rcases List.mem_cons.mp he with rfl | he
    · exact D.hsn e List.mem_cons_self
    · exact D.hsn e' (List.mem_cons_of_mem _ he)
  · intro e' he
    rcases List.mem_cons.mp he with rfl | he
    · exact hlt
    · exact D.hi e' (List.mem_cons_of_mem _ he)
theorem DF.pop {e : Ent} {t : List Ent} (D : DF H0 H N st its se nd (e :: t) sn) {H' : AH} {ep : Nat} (k : ∀ b o, H b = some o → b ≠ e.it → b ≠ its → b ≠ nd → b ≠ st → H' b = some o)
    (e1 : H' st = some (.list (ivs (t.reverse.map (·.v))))) (e2 : H' its = some (.list (t.reverse.map fun e => .ref e.m))) (e4 : H' nd = some (.dict (Epos t) ep)) : DF H0 H' N st its se nd t sn := by
  obtain ⟨ep0, hnd⟩ := D.hnd
  have hie := D.hit e List.mem_cons_self
  have hnit := D.nit
  have hnv := D.nv
  simp only [List.map_cons, List.nodup_cons] at hnit hnv
  have kk : ∀ b o, H b = some o → b ≠ e.it → (∀ x, o ≠ .list x) → (∀ x y, o ≠ .dict x y) → H' b = some o := fun b o hb hne a1 a3 =>
    k b o hb hne (by rintro rfl; rw [D.hits] at hb; cases hb; exact a1 _ rfl) (by rintro rfl; rw [hnd] at hb; cases hb; exact a3 _ _ rfl) (by rintro rfl; rw [D.hst] at hb; cases hb; exact a1 _ rfl)
  exact { old := fun b o hb => k b o (D.old b o hb) (by first | exact no_some (D.fi e List.mem_cons_self) hb | exact (no_some (D.fi e List.mem_cons_self) hb).symm | exact no_some hb (D.fi e List.mem_cons_self) | exact (no_some hb (D.fi e List.mem_cons_self)).symm | exact two_ne (D.fi e List.mem_cons_self) hb (by intro q; cases q; done) | exact (two_ne (D.fi e List.mem_cons_self) hb (by intro q; cases q; done)).symm | (rintro rfl; rw [D.fi e List.mem_cons_self] at hb; cases hb)) (by first | exact no_some (D.f2) hb | exact (no_some (D.f2) hb).symm | exact no_some hb (D.f2) | exact (no_some hb (D.f2)).symm | exact two_ne (D.f2) hb (by intro q; cases q; done) | exact (two_ne (D.f2) hb (by intro q; cases q; done)).symm | (rintro rfl; rw [D.f2] at hb; cases hb)) (by first | exact no_some (D.f4) hb | exact (no_some (D.f4) hb).symm | exact no_some hb (D.f4) | exact (no_some hb (D.f4)).symm | exact two_ne (D.f4) hb (by intro q; cases q; done) | exact (two_ne (D.f4) hb (by intro q; cases q; done)).symm | (rintro rfl; rw [D.f4] at hb; cases hb)) (by first | exact no_some (D.f1) hb | exact (no_some (D.f1) hb).symm | exact no_some hb (D.f1) | exact (no_some hb (D.f1)).symm | exact two_ne (D.f1) hb (by intro q; cases q; done) | exact (two_ne (D.f1) hb (by intro q; cases q; done)).symm | (rintro rfl; rw [D.f1] at hb; cases hb)),
          hst := e1, hits := e2, hse := kk _ _ D.hse (by first | exact no_some (D.hse) (hie) | exact no_some (hie) (D.hse) | exact (no_some (D.hse) (hie)).symm | exact (no_some (hie) (D.hse)).symm | exact two_ne (D.hse) (hie) (by intro q; cases q; done) | exact (two_ne (D.hse) (hie) (by intro q; cases q; done)).symm | (intro ee; have := D.hse; rw [ee, hie] at this; cases this)) (by simp) (by simp), hnd := ⟨ep, e4⟩, n1 := D.n1, f1 := D.f1, f2 := D.f2, f3 := D.f3, f4 := D.f4,
          hm := fun e' he => kk _ _ (D.hm e' (List.mem_cons_of_mem _ he)) (by first | exact no_some (D.hm e' (List.mem_cons_of_mem _ he)) (hie) | exact no_some (hie) (D.hm e' (List.mem_cons_of_mem _ he)) | exact (no_some (D.hm e' (List.mem_cons_of_mem _ he)) (hie)).symm | exact (no_some (hie) (D.hm e' (List.mem_cons_of_mem _ he))).symm | exact two_ne (D.hm e' (List.mem_cons_of_mem _ he)) (hie) (by intro q; cases q; done) | exact (two_ne (D.hm e' (List.mem_cons_of_mem _ he)) (hie) (by intro q; cases q; done)).symm | (intro ee; have := D.hm e' (List.mem_cons_of_mem _ he); rw [ee, hie] at this; cases this)) (by simp) (by simp),
          hit := fun e' he => kk _ _ (D.hit e' (List.mem_cons_of_mem _ he)) (by intro ee; exact hnit.1 (List.mem_map.mpr ⟨e', he, ee⟩)) (by simp) (by simp),
          fi := fun e' he => D.fi e' (List.mem_cons_of_mem _ he), nit := hnit.2, hl := fun e' he => D.hl e' (List.mem_cons_of_mem _ he), hsn := fun e' he => D.hsn e' (List.mem_cons_of_mem _ he),
          nv := hnv.2, ssub := D.ssub, snd := D.snd, hi := fun e' he => D.hi e' (List.mem_cons_of_mem _ he) }
end

local macro_rules | `(tactic| walk_at "wupd") => `(tactic| repeat (first | rw [upd_self] | rw [upd_ne _ _ (by first | assumption | (apply Ne.symm; assumption))]))
section
variable {C : Cx} {A : Around} {E : Value → Shared → Prop} {H H0 : AH} {a d0 d r : Addr} {ep : Nat} {N : List Nd} {rdy : List Int} {rd : Value} {p q : Int} {st its se nd : Addr} {T : List Ent} {sn : List Int}
set_option genInjectivity false in
structure LF (L : Loc) (d st its se nd : Addr) : Prop where
  l1 : L "n2i" = some (.ref d)
  l2 : L "stack" = some (.ref st)
  l3 : L "itstack" = some (.ref its)
  l4 : L "seen" = some (.ref se)
  l5 : L "node2stacki" = some (.ref nd)
set_option genInjectivity false in
structure Stl (N : List Nd) (Z sn0 : List Int) (v0 : Int) (n : Nat) (T : List Ent) (sn : List Int) : Prop where
  ok : Okc (fin sn T) none T
  inc : (∀ n ∈ N, ∀ s ∈ n.su, n.v < s) → (T.map (·.v)).Pairwise (fun x y => y < x)
  z : ∀ z ∈ Z, ¬ fin sn T z
  mu : uns N sn + wts T ≤ n
  s0 : ∀ x ∈ sn0, x ∈ sn
  v0 : v0 ∈ sn
theorem ne_of_obj {H : AH} {a b : Addr} {x y : AO} (ha : H a = some x) (hb : H b = some y) (h : x ≠ y) : a ≠ b := by
  rintro rfl; rw [ha] at hb; exact h (Option.some.inj hb)
theorem ne_of_none {H : AH} {a b : Addr} {x : AO} (ha : H a = some x) (hb : H b = none) : a ≠ b := by
  rintro rfl; rw [ha] at hb; cases hb
theorem findCycle (X : Ctx C) {k : Nat} (hA : AIn C A (k + 1)) (S : Srt H a d0 d ep N rd p q) (hcl : ∀ n ∈ N, ∀ s ∈ n.su, s ∈ N.map (·.v)) (hbd : Bd (N.map pv) 1000) {Z : List Int} (hZ : ∀ z ∈ Z, ∃ n ∈ N, n.v = z ∧ ∃ s ∈ n.su, s ∈ Z) {Q : Value → AH → Prop}
    (h1 : Z = [] → ∀ H', (∀ b o, H b = some o → H' b = some o) → Q .none H')
    (h2 : ¬ (∀ n ∈ N, ∀ s ∈ n.su, n.v < s) → ∀ c ys H', ys ≠ [] → ys.length ≤ 2000 → H' c = some (.list ys) → (∀ b o, H b = some o → H' b = some o) → Q (.ref c) H') :
    PC C A (.call (.ref 127) ⟨[.ref a], []⟩) H fun v H' => Q (er v) H' := by
  refine PC.fnP [("self", .ref a)] X.O hA (X.look rfl) (by walk_at "kk") rfl rfl rfl rfl rfl rfl rfl rfl rfl rfl ?_
  intro L f A' O' FS hA' hF
  have X' := X.push L
  simp only [locB, List.map_cons, List.map_nil, List.foldl_cons, List.foldl_nil]
  refine SW.hide fun RR hRR => ?_
  walk_at "ww"
  refine P1.attr (cls137 X') S.inst rfl rfl rfl (by walk_at "tl") fun v ev => ?_
  rw [ev]
  walk_at "ww"
  refine ⟨Nat.zero_le _, fun st hst => ?_⟩
  walk_at "ww"
  refine ⟨Nat.zero_le _, fun its hits => ?_⟩
  walk_at "ww"
  refine ⟨KeepOk.type, CallP.setNew fun se hse => ?_⟩
  walk_at "ww"
  intro nd hnd
  have n1 : its ≠ st := by first | exact no_some (upd_self ..) hits | exact (no_some (upd_self ..) hits).symm | exact no_some hits (upd_self ..) | exact (no_some hits (upd_self ..)).symm | exact two_ne (upd_self ..) hits (by intro q; cases q; done) | exact (two_ne (upd_self ..) hits (by intro q; cases q; done)).symm | (rintro rfl; rw [upd_self] at hits; cases hits)
  have hits0 : H its = none := by rw [upd_ne _ _ n1] at hits; exact hits
  have n2 : se ≠ its := by first | exact no_some (upd_self ..) hse | exact (no_some (upd_self ..) hse).symm | exact no_some hse (upd_self ..) | exact (no_some hse (upd_self ..)).symm | exact two_ne (upd_self ..) hse (by intro q; cases q; done) | exact (two_ne (upd_self ..) hse (by intro q; cases q; done)).symm | (rintro rfl; rw [upd_self] at hse; cases hse)
  rw [upd_ne _ _ n2] at hse
  have n3 : se ≠ st := by first | exact no_some (upd_self ..) hse | exact (no_some (upd_self ..) hse).symm | exact no_some hse (upd_self ..) | exact (no_some hse (upd_self ..)).symm | exact two_ne (upd_self ..) hse (by intro q; cases q; done) | exact (two_ne (upd_self ..) hse (by intro q; cases q; done)).symm | (rintro rfl; rw [upd_self] at hse; cases hse)
  rw [upd_ne _ _ n3] at hse
  have n4 : nd ≠ se := by first | exact no_some (upd_self ..) hnd | exact (no_some (upd_self ..) hnd).symm | exact no_some hnd (upd_self ..) | exact (no_some hnd (upd_self ..)).symm | exact two_ne (upd_self ..) hnd (by intro q; cases q; done) | exact (two_ne (upd_self ..) hnd (by intro q; cases q; done)).symm | (rintro rfl; rw [upd_self] at hnd; cases hnd)
  rw [upd_ne _ _ n4] at hnd
  have n5 : nd ≠ its := by first | exact no_some (upd_self ..) hnd | exact (no_some (upd_self ..) hnd).symm | exact no_some hnd (upd_self ..) | exact (no_some hnd (upd_self ..)).symm | exact two_ne (upd_self ..) hnd (by intro q; cases q; done) | exact (two_ne (upd_self ..) hnd (by intro q; cases q; done)).symm | (rintro rfl; rw [upd_self] at hnd; cases hnd)
  rw [upd_ne _ _ n5] at hnd
  have n6 : nd ≠ st := by first | exact no_some (upd_self ..) hnd | exact (no_some (upd_self ..) hnd).symm | exact no_some hnd (upd_self ..) | exact (no_some hnd (upd_self ..)).symm | exact two_ne (upd_self ..) hnd (by intro q; cases q; done) | exact (two_ne (upd_self ..) hnd (by intro q; cases q; done)).symm | (rintro rfl; rw [upd_self] at hnd; cases hnd)
  rw [upd_ne _ _ n6] at hnd
  have D0 : DF H (upd (upd (upd (upd H st (.list [])) its (.list [])) se (.set [])) nd (.dict [] 0)) N st its se nd [] [] := by
    refine { old := fun b o hb => ?_, hst := by walk_at "wupd"; rfl, hits := by walk_at "wupd"; rfl, hse := by walk_at "wupd", hnd := ⟨0, by walk_at "wupd"; rfl⟩, n1 := n1.symm, f1 := hst, f2 := hits0, f3 := hse, f4 := hnd, hm := by simp, hit := by simp, fi := by simp, nit := by simp, hl := by simp, hsn := by simp, nv := by simp, ssub := by simp, snd := by simp, hi := by simp }
    have m1 : b ≠ st := by first | exact no_some (hst) hb | exact (no_some (hst) hb).symm | exact no_some hb (hst) | exact (no_some hb (hst)).symm | exact two_ne (hst) hb (by intro q; cases q; done) | exact (two_ne (hst) hb (by intro q; cases q; done)).symm | (rintro rfl; rw [hst] at hb; cases hb)
    have m2 : b ≠ its := by first | exact no_some (hits0) hb | exact (no_some (hits0) hb).symm | exact no_some hb (hits0) | exact (no_some hb (hits0)).symm | exact two_ne (hits0) hb (by intro q; cases q; done) | exact (two_ne (hits0) hb (by intro q; cases q; done)).symm | (rintro rfl; rw [hits0] at hb; cases hb)
    have m3 : b ≠ se := by first | exact no_some (hse) hb | exact (no_some (hse) hb).symm | exact no_some hb (hse) | exact (no_some hb (hse)).symm | exact two_ne (hse) hb (by intro q; cases q; done) | exact (two_ne (hse) hb (by intro q; cases q; done)).symm | (rintro rfl; rw [hse] at hb; cases hb)
    have m4 : b ≠ nd := by first | exact no_some (hnd) hb | exact (no_some (hnd) hb).symm | exact no_some hb (hnd) | exact (no_some hb (hnd)).symm | exact two_ne (hnd) hb (by intro q; cases q; done) | exact (two_ne (hnd) hb (by intro q; cases q; done)).symm | (rintro rfl; rw [hnd] at hb; cases hb)
    walk_at "wupd"; exact hb
  generalize upd (upd (upd (upd H st (.list [])) its (.list [])) se (.set [])) nd (.dict [] 0) = H1 at D0 ⊢
  walk_at "ww"
  refine XW.for ?_
  walk_at "ww"
  refine ⟨_, _, D0.old _ _ S.dict, IterP.dict' hA'.hd, ?_⟩
  have hkeys : ((n2i N).map fun e => Value.int e.1 0) = ivs (N.map (·.v)) := by simp [n2i, ivs]
  rw [hkeys]
  have nz : ∀ z ∈ Z, z ∈ N.map (·.v) := fun z hz => let ⟨n, hn, e, _⟩ := hZ z hz; e ▸ List.mem_map.mpr ⟨n, hn, rfl⟩
  refine ForW.invT (fun xs L H' => Ex2 fun rem sn => An6 (xs = ivs rem) (∀ x ∈ N.map (·.v), x ∈ sn ∨ x ∈ rem) (∀ x ∈ rem, x ∈ N.map (·.v)) (DF H H' N st its se nd [] sn) (∀ z ∈ Z, ¬ fin sn [] z) (LF L d st its se nd)) ?_ ?_
    ⟨N.map (·.v), [], rfl, fun x hx => .inr hx, fun x hx => hx, D0, fun z _ h => (by cases h.1), ⟨by walk_at "wloc", by walk_at "wloc", by walk_at "wloc", by walk_at "wloc", by walk_at "wloc"⟩⟩
  · rintro L1 H1 ⟨rem, sn, e, hall, _, D, hz, _⟩
    cases rem with
    | cons _ _ => cases e
    | nil =>
      have hZ0 : Z = [] := by
        cases Z with
        | nil => rfl
        | cons z Z =>
          refine absurd ?_ (hz z List.mem_cons_self)
          rcases hall z (nz z List.mem_cons_self) with h | h
          · exact ⟨h, by simp⟩
          · cases h
      walk_at "ww"
      intro u eu
      refine hRR _ _ _ ?_
      show Q (er u) _
      rw [eu]
      exact h1 hZ0 H1 D.old
  · rintro x xs L1 H1 T1 hT1 ⟨rem, sn0, e, hall, hin, D, hz, lf⟩
    cases rem with
    | nil => cases e
    | cons v0 rem =>
      cases e
      obtain ⟨l1, l2, l3, l4, l5⟩ := lf
      walk_at "ww"
      refine P2.inSet D.hse ⟨_, rfl, ?_⟩
      by_cases hv0 : v0 ∈ sn0
      · rw [if_pos (decide_eq_true hv0)]
        walk_at "ww"
        refine hT1 _ _ _ ⟨D.old _ _ S.dict, rem, sn0, rfl, fun x hx => ?_, fun x hx => hin x (List.mem_cons_of_mem _ hx), D, hz, ⟨by walk_at "wloc", by walk_at "wloc", by walk_at "wloc", by walk_at "wloc", by walk_at "wloc"⟩⟩
        rcases hall x hx with h | h
        · exact .inl h
        · rcases List.mem_cons.mp h with rfl | h
          · exact .inl hv0
          · exact .inr h
      · rw [if_neg (by simpa using hv0)]
        refine SW.nil ?_
        walk_at "ww"
        have hdn : D.old _ _ S.dict = D.old _ _ S.dict := rfl
        refine XW.whileT (fun n L H' => Ex3 fun T sn v => An10 (DF H H' N st its se nd T sn) (Okc (fin sn T) (some v) T) ((∀ n ∈ N, ∀ s ∈ n.su, n.v < s) → (T.map (·.v)).Pairwise (fun x y => y < x) ∧ ∀ e ∈ T, e.v < v) (∀ z ∈ Z, ¬ fin sn T z) (uns N sn + wts T ≤ n) (∀ x ∈ sn0, x ∈ sn) (v0 ∈ sn ∨ v0 = v) (v ∈ N.map (·.v)) (L "node" = some (.int v 0)) (LF L d st its se nd)) ?_ (uns N sn0)
          ⟨[], sn0, v0, D, trivial, fun _ => ⟨by simp, by simp⟩, hz, by simp [wts], fun x hx => hx, .inr rfl, hin v0 List.mem_cons_self, by walk_at "wloc", ⟨by walk_at "wloc", by walk_at "wloc", by walk_at "wloc", by walk_at "wloc", by walk_at "wloc"⟩⟩
        clear l1 l2 l3 l4 l5
        rintro n L2 H2 T2 hT2 hT2b hT2r ⟨T, sn, v, D, okc, hinc, hz, hmu, hs0, hv0', hvN, ln, ⟨l1, l2, l3, l4, l5⟩⟩
        have hTlen : T.length ≤ 1000 := by
          have h := nodup_len D.nv (m := N.map (·.v)) (by
            intro x hx
            obtain ⟨e, he, rfl⟩ := List.mem_map.mp hx
            exact D.ssub _ (D.hsn e he))
          have := S.sz
          simp only [List.length_map] at h; lia
        have hsnl : sn.length ≤ 1000 := by
          have h := nodup_len D.snd D.ssub
          have := S.sz
          simp only [List.length_map] at h; lia
        walk_at "ww"
        refine P1.truthy_bool ?_
        rw [if_pos rfl]
        refine SW.cons (TW.mono (Q := fun fl L H' => match fl with
          | .next => ∃ T sn, DF H H' N st its se nd T sn ∧ Stl N Z sn0 v0 n T sn ∧ LF L d st its se nd
          | .ret u => RR (.ret u) L H'
          | _ => False) ?_ ?_)
        · walk_at "ww"
          refine P2.inSet D.hse ⟨_, rfl, ?_⟩
          by_cases hv : v ∈ sn
          · rw [if_pos (decide_eq_true hv)]
            obtain ⟨ep1, hndv⟩ := D.hnd
            walk_at "ww"
            refine P2.inDict hndv ⟨_, rfl, ?_⟩
            by_cases hT : v ∈ T.map (·.v)
            · obtain ⟨j, hj⟩ := valueAt_Epos hT
              simp only [hj, Option.isSome_some, if_true]
              walk_at "ww"
              refine P2.subDict hndv hj (fun w ew => ?_)
              refine ⟨j, ew, ?_⟩
              refine EWo.none ?_
              intro c hc
              have hTl : (ivs (T.reverse.map (·.v))).length ≤ 1000 := by simpa [ivs] using hTlen
              refine P2.slice (upd_fresh hc _ _ D.hst) (upd_self ..) (Nat.le_trans hTl (by decide)) fun r1 hr1 => ?_
              walk_at "ww"
              refine ⟨show 1 ≤ sizeLine by decide, fun r2 hr2 => ?_⟩
              have hpl : (pick (ivs (T.reverse.map (·.v))) (some (j : Int)) none).length ≤ 1000 := pick_le hTl
              refine P2.addList (upd_fresh hr2 _ _ (upd_self ..)) (upd_self ..) (by simp only [List.length_cons, List.length_nil]; exact Nat.le_trans (Nat.add_le_add_right hpl _) (by decide)) fun r3 hr3 => ?_
              intro u eu
              refine hRR _ _ _ ?_
              show Q (er u) _
              rw [eu]
              refine h2 (fun i => ?_) r3 _ _ (by simp) (by rw [List.length_append]; exact Nat.le_trans (Nat.add_le_add_right hpl _) (show 1001 ≤ 2000 by decide)) (upd_self ..) fun b o hb => upd_fresh hr3 _ _ (upd_fresh hr2 _ _ (upd_fresh hr1 _ _ (upd_fresh hc _ _ (D.old b o hb))))
              obtain ⟨e, he, ee⟩ := List.mem_map.mp hT
              have := (hinc i).2 e he
              rw [show e.v = v from ee] at this
              exact absurd this (by lia)
            · have : (valueAt (Epos T) v).isSome = false := by
                rw [valueAt_none (by rw [Epos_keys]; simpa using hT)]; rfl
              rw [this, if_neg (by decide)]
              walk_at "ww"
              have fv : fin sn T v := ⟨hv, hT⟩
              refine ⟨T, sn, D, ⟨okc.drop fv, fun i => (hinc i).1, hz, hmu, hs0, ?_⟩, ⟨l1, l2, l3, l4, l5⟩⟩
              rcases hv0' with h | h
              · exact h
              · rw [h]; exact hv
          · rw [if_neg (by simpa using hv)]
            obtain ⟨m0, hm0, rfl⟩ := List.mem_map.mp hvN
            walk_at "ww"
            refine MethP.set D.hse F.slot_set_add F.type_set_add ?_
            walk_at "ww"
            refine ⟨KeepOk.builtin, CallP.sadd D.hse (Nat.lt_of_le_of_lt (Nat.add_le_add_right hsnl 1) (by decide)) ?_⟩
            rw [if_neg hv]
            obtain ⟨ep1, hndv⟩ := D.hnd
            have hdd := D.old _ _ S.dict
            have hna := D.old _ _ (S.node m0 hm0)
            have hns := D.old _ _ (S.list m0 hm0)
            have c1 : its ≠ se := ne_of_obj D.hits D.hse (by simp)
            have c2 : st ≠ se := ne_of_obj D.hst D.hse (by simp)
            have c3 : nd ≠ se := ne_of_obj hndv D.hse (by simp)
            have c4 : d ≠ se := ne_of_obj hdd D.hse (by simp)
            have c5 : m0.a ≠ se := ne_of_obj hna D.hse (by simp [ndObj])
            have c6 : m0.s ≠ se := ne_of_obj hns D.hse (by simp)
            have c7 : st ≠ its := D.n1
            have c8 : nd ≠ its := ne_of_obj hndv D.hits (by simp)
            have c9 : nd ≠ st := ne_of_obj hndv D.hst (by simp)
            walk_at "ww"
            refine MethP.list (xs := T.reverse.map fun e => Value.ref e.m) (by walk_at "wupd"; exact D.hits) F.slot_list_append F.type_list_append ?_
            walk_at "ww"
            refine P2.subDict (by walk_at "wupd"; exact hdd) (valueAt_n2i_some S.nv hm0) (fun w ew => ?_)
            rw [ew]
            refine P1.slot (p := 43) (i := 2) O' (show upd H2 se _ m0.a = some (ndObj m0) by walk_at "wupd"; exact hna) (by walk_at "kk") (by walk_at "kk") (fun od => by rw [X'.K]; rfl) (by walk_at "kk") rfl rfl fun w ew => ?_
            rw [ew]
            walk_at "ww"
            refine ⟨KeepOk.builtin, CallP.iterList (xs := ivs m0.su) (by walk_at "wupd"; exact hns) fun it hit => ?_⟩
            have i0 : it ≠ se := by first | exact no_some (upd_self ..) hit | exact (no_some (upd_self ..) hit).symm | exact no_some hit (upd_self ..) | exact (no_some hit (upd_self ..)).symm | exact two_ne (upd_self ..) hit (by intro q; cases q; done) | exact (two_ne (upd_self ..) hit (by intro q; cases q; done)).symm | (rintro rfl; rw [upd_self] at hit; cases hit)
            rw [upd_ne _ _ i0] at hit
            refine P1.next (upd_self ..) fun m hm => ?_
            rw [upd_upd]
            have i1 : m ≠ it := by first | exact no_some (upd_self ..) hm | exact (no_some (upd_self ..) hm).symm | exact no_some hm (upd_self ..) | exact (no_some hm (upd_self ..)).symm | exact two_ne (upd_self ..) hm (by intro q; cases q; done) | exact (two_ne (upd_self ..) hm (by intro q; cases q; done)).symm | (rintro rfl; rw [upd_self] at hm; cases hm)
            rw [upd_ne _ _ i1] at hm
            have i2 : m ≠ se := by first | exact no_some (upd_self ..) hm | exact (no_some (upd_self ..) hm).symm | exact no_some hm (upd_self ..) | exact (no_some hm (upd_self ..)).symm | exact two_ne (upd_self ..) hm (by intro q; cases q; done) | exact (two_ne (upd_self ..) hm (by intro q; cases q; done)).symm | (rintro rfl; rw [upd_self] at hm; cases hm)
            rw [upd_ne _ _ i2] at hm
            have j1 : its ≠ it := ne_of_none D.hits hit
            have j2 : its ≠ m := ne_of_none D.hits hm
            have j3 : st ≠ it := ne_of_none D.hst hit
            have j4 : st ≠ m := ne_of_none D.hst hm
            have j5 : nd ≠ it := ne_of_none hndv hit
            have j6 : nd ≠ m := ne_of_none hndv hm
            walk_at "ww"
            refine ⟨KeepOk.builtin, CallP.lappend (xs := T.reverse.map fun e => Value.ref e.m) (by walk_at "wupd"; exact D.hits) (by simp only [List.length_map, List.length_reverse]; exact Nat.le_trans hTlen (by decide)) ?_⟩
            walk_at "ww"
            refine ⟨KeepOk.builtin, CallP.lenList (xs := ivs (T.reverse.map (·.v))) (by walk_at "wupd"; exact D.hst) (by simp [ivs]; lia) ?_⟩
            walk_at "ww"
            intro o' i' v' eo ei ev'
            have eo := er_ref eo; subst eo
            obtain ⟨t', rfl⟩ := er_int ei
            refine setDict (es := Epos T) (ep := ep1) (by walk_at "wupd"; exact hndv) (by rw [Epos_len]; exact Nat.le_trans hTlen (by decide)) fun ep' => ?_
            have hvT : m0.v ∉ (Epos T).map (·.1) := by
              rw [Epos_keys]
              intro h
              simp only [List.map_reverse, List.mem_reverse] at h
              obtain ⟨e, he, ee⟩ := List.mem_map.mp h
              exact hv (by rw [← show e.v = m0.v from ee]; exact D.hsn e he)
            rw [ev', stored_new hvT]
            walk_at "ww"
            refine MethP.list (xs := ivs (T.reverse.map (·.v))) (by walk_at "wupd"; exact D.hst) F.slot_list_append F.type_list_append ?_
            walk_at "ww"
            refine ⟨KeepOk.builtin, CallP.lappend (xs := ivs (T.reverse.map (·.v))) (by walk_at "wupd"; exact D.hst) (by simp only [ivs, List.length_map, List.length_reverse]; exact Nat.le_trans hTlen (by decide)) ?_⟩
            walk_at "ww"
            have fm : ∀ x, fin sn T x → fin (m0.v :: sn) (⟨m0.v, m, it, m0.s, 0, m0.su⟩ :: T) x := fun x hx => ⟨List.mem_cons_of_mem _ hx.1, by
              simp only [List.map_cons, List.mem_cons, not_or]
              exact ⟨by rintro rfl; exact hv hx.1, hx.2⟩⟩
            refine ⟨⟨m0.v, m, it, m0.s, 0, m0.su⟩ :: T, m0.v :: sn, D.push (ep := ep') hm0 hv hit i1.symm (fun b o hb b1 b2 b3 b4 => ?_) ?_ ?_ ?_ ?_ ?_ ?_, ⟨⟨by simp, okc.mono fm⟩, fun i => ?_, fun z hz' hfz => ?_, ?_, fun x hx => List.mem_cons_of_mem _ (hs0 x hx), ?_⟩, ⟨l1, l2, l3, l4, l5⟩⟩
            · have b5 : b ≠ it := ne_of_none hb hit
              have b6 : b ≠ m := ne_of_none hb hm
              walk_at "wupd"; exact hb
            · walk_at "wupd"; simp [ivs]
            · walk_at "wupd"; rfl
            · walk_at "wupd"
            · walk_at "wupd"; simp [ivs]
            · walk_at "wupd"
            · walk_at "wupd"
            · simp only [List.map_cons, List.pairwise_cons]
              refine ⟨fun x hx => ?_, (hinc i).1⟩
              obtain ⟨e, he, rfl⟩ := List.mem_map.mp hx
              exact (hinc i).2 e he
            · refine hz z hz' ⟨?_, fun h => hfz.2 (List.mem_cons_of_mem _ h)⟩
              rcases List.mem_cons.mp hfz.1 with rfl | h
              · exact absurd List.mem_cons_self hfz.2
              · exact h
            · have := uns_add hm0 hv
              simp only [wts, List.map_cons, List.sum_cons] at hmu ⊢
              lia
            · rcases hv0' with h | h
              · exact List.mem_cons_of_mem _ h
              · rw [h]; exact List.mem_cons_self
        · rintro fl L3 H3 hfl
          cases fl with
          | brk => exact hfl.elim
          | cont => exact hfl.elim
          | ret u => exact hT2r _ _ _ (hT1 _ _ _ hfl)
          | next =>
            obtain ⟨T, sn, D, Sl, lf⟩ := hfl
            walk_at "ww"
            refine XW.whileT (fun k L H' => Ex2 fun T sn => An4 (DF H H' N st its se nd T sn) (Stl N Z sn0 v0 n T sn) (LF L d st its se nd) (T.length = k)) ?_ T.length ⟨T, sn, D, Sl, lf, rfl⟩
            clear D Sl lf
            rintro k4 L4 H4 T4 hT4 hT4b hT4r ⟨T, sn, D, Sl, ⟨l1, l2, l3, l4, l5⟩, hk⟩
            have hTlen : T.length ≤ 1000 := by
              have h := nodup_len D.nv (m := N.map (·.v)) (by
                intro x hx
                obtain ⟨e, he, rfl⟩ := List.mem_map.mp hx
                exact D.ssub _ (D.hsn e he))
              have := S.sz
              simp only [List.length_map] at h; lia
            walk_at "ww"
            refine P1.truthy_list D.hst (by simp [ivs]; lia) ?_
            cases T with
            | nil =>
              rw [if_neg (by decide)]
              walk_at "ww"
              refine hT2b _ _ (SW.nil (hT1 .next _ _ ⟨D.old _ _ S.dict, rem, sn, rfl, fun x hx => ?_, fun x hx => hin x (List.mem_cons_of_mem _ hx), D, Sl.z, ⟨l1, l2, l3, l4, l5⟩⟩))
              rcases hall x hx with h | h
              · exact .inl (Sl.s0 x h)
              · rcases List.mem_cons.mp h with rfl | h
                · exact .inl Sl.v0
                · exact .inr h
            | cons e t =>
              have hne : (!(ivs ((e :: t).reverse.map (·.v))).isEmpty) = true := by simp [ivs]
              rw [if_pos hne]
              refine SW.cons ?_
              refine XW.tryNext O' hF hA'.hd ((FS.kinds _).trans rfl) FS.loc ((FS.kinds _).trans rfl) (b_StopIteration X') ?_
              walk_at "ww"
              refine P1.neg fun t1 => ?_
              have hidx : (-1 + (((e :: t).reverse.map fun e => Value.ref e.m).length : Int)).toNat = t.length := by
                rw [List.length_map, List.length_reverse]; exact last_ix t.length
              refine P2.subListNeg (x := .ref e.m) D.hits (by decide) (by simp; lia) (by rw [hidx]; simp [List.getElem?_append]) (by decide) (fun w ew => ?_)
              obtain ⟨n', hn', q1, q2, q3⟩ := D.hl e List.mem_cons_self
              have hls : H4 e.l = some (.list (ivs e.su)) := by rw [← q2, ← q3]; exact D.old _ _ (S.list n' hn')
              refine ⟨e.m, e.it, e.l, e.i, ivs e.su, ew, D.hm e List.mem_cons_self, D.hit e List.mem_cons_self, hls, ?_⟩
              have hnv := D.nv
              simp only [List.map_cons, List.nodup_cons] at hnv
              cases hx : (ivs e.su)[e.i]? with
              | some w =>
                have hlt : e.i < e.su.length := by
                  have := (List.getElem?_eq_some_iff.mp hx).1
                  simpa [ivs] using this
                have hw : w = .int e.su[e.i] 0 := by
                  have := (List.getElem?_eq_some_iff.mp hx).2
                  simpa [ivs] using this.symm
                subst hw
                have hmem : e.su[e.i] ∈ n'.su := by rw [q3]; exact List.getElem_mem hlt
                have hmu := Sl.mu
                simp only [wts, List.map_cons, List.sum_cons] at hmu
                refine hT4b _ _ (SW.nil (hT2 (uns N sn + wts ({ e with i := e.i + 1 } :: t)) _ _ ?_ ⟨{ e with i := e.i + 1 } :: t, sn, e.su[e.i], D.step hlt, ⟨fun s hs => ?_, ?_⟩, fun i => ⟨Sl.inc i, ?_⟩, Sl.z, Nat.le_refl _, Sl.s0, .inl Sl.v0, hcl n' hn' _ hmem, by walk_at "wloc", ⟨by walk_at "wloc", by walk_at "wloc", by walk_at "wloc", by walk_at "wloc", by walk_at "wloc"⟩⟩).1)
                · simp only [wts, List.map_cons, List.sum_cons]
                  lia
                · dsimp only at hs ⊢
                  rw [List.take_add_one, List.getElem?_eq_getElem hlt] at hs
                  rcases List.mem_append.mp hs with h | h
                  · rcases Sl.ok.1 s h with h | h
                    · exact .inl h
                    · cases h
                  · simp at h; exact .inr (by rw [h])
                · exact Sl.ok.2
                · have hp := Sl.inc i
                  simp only [List.map_cons, List.pairwise_cons] at hp
                  have h0 : e.v < e.su[e.i] := by rw [← q1]; exact i n' hn' _ hmem
                  intro e' he'
                  rcases List.mem_cons.mp he' with rfl | he'
                  · exact h0
                  · have := hp.1 e'.v (List.mem_map.mpr ⟨e', he', rfl⟩); lia
              | none =>
                have hge : e.su.length ≤ e.i := by
                  have := List.getElem?_eq_none_iff.mp hx
                  simpa [ivs] using this
                intro A2 o
                obtain ⟨ep1, hndv⟩ := D.hnd
                have hie := D.hit e List.mem_cons_self
                have c1 : its ≠ e.it := ne_of_obj D.hits hie (by simp)
                have c2 : st ≠ e.it := ne_of_obj D.hst hie (by simp)
                have c3 : nd ≠ e.it := ne_of_obj hndv hie (by simp)
                have c7 : st ≠ its := D.n1
                have c8 : nd ≠ its := ne_of_obj hndv D.hits (by simp)
                have c9 : nd ≠ st := ne_of_obj hndv D.hst (by simp)
                refine SW.cons ?_
                refine XW.delSub ?_
                walk_at "ww"
                refine MethP.list (xs := ivs ((e :: t).reverse.map (·.v))) (by walk_at "wupd"; exact D.hst) F.slot_list_pop F.type_list_pop ?_
                walk_at "ww"
                have hti : (ivs (t.reverse.map (·.v))).length < sizeLine := by
                  simp only [ivs, List.length_map, List.length_reverse]
                  exact Nat.lt_of_le_of_lt (show t.length ≤ 1000 by simp only [List.length_cons] at hTlen; lia) (by decide)
                refine ⟨KeepOk.builtin, CallP.lpop (xs := ivs (t.reverse.map (·.v))) (x := .int e.v 0) (by walk_at "wupd"; rw [D.hst]; simp [ivs]) hti ?_⟩
                refine P2.delDict (es := Epos (e :: t)) (ep := ep1) (by walk_at "wupd"; exact hndv) (by obtain ⟨j, hj⟩ := valueAt_Epos (T := e :: t) (x := e.v) (by simp); rw [hj]; rfl) (by rw [Epos_len]; exact Nat.le_trans hTlen (by decide)) fun ep' => ?_
                rw [without_Epos hnv.1]
                walk_at "ww"
                refine MethP.list (xs := (e :: t).reverse.map fun e => Value.ref e.m) (by walk_at "wupd"; exact D.hits) F.slot_list_pop F.type_list_pop ?_
                walk_at "ww"
                refine ⟨KeepOk.builtin, CallP.lpop (xs := t.reverse.map fun e => Value.ref e.m) (x := .ref e.m) (by walk_at "wupd"; rw [D.hits]; simp) (by simp only [ivs, List.length_map, List.length_reverse] at hti ⊢; exact hti) ?_⟩
                walk_at "ww"
                have fe : fin sn t e.v := ⟨D.hsn e List.mem_cons_self, hnv.1⟩
                have fm : ∀ x, fin sn (e :: t) x → fin sn t x := fun x hx => ⟨hx.1, fun h => hx.2 (List.mem_cons_of_mem _ h)⟩
                refine (hT4 t.length _ _ (by rw [← hk]; simp) ⟨t, sn, D.pop (ep := ep') (fun b o hb b1 b2 b3 b4 => by walk_at "wupd"; exact hb) (by walk_at "wupd") (by walk_at "wupd") (by walk_at "wupd"), ⟨(Sl.ok.2.mono fm).drop fe, fun i => ?_, fun z hz' hfz => ?_, ?_, Sl.s0, Sl.v0⟩, ⟨l1, l2, l3, l4, l5⟩, rfl⟩).1
                · have hp := Sl.inc i
                  simp only [List.map_cons, List.pairwise_cons] at hp
                  exact hp.2
                · by_cases hze : z = e.v
                  · obtain ⟨n2, hn2, e2, s, hs, hsZ⟩ := hZ z hz'
                    have : n2 = n' := nd_injv S.nv hn2 hn' (by rw [e2, q1, hze])
                    subst this
                    rw [q3] at hs
                    rcases Sl.ok.1 s (by rw [List.take_of_length_le hge]; exact hs) with h | h
                    · exact Sl.z s hsZ h
                    · cases h
                  · exact Sl.z z hz' ⟨hfz.1, fun h => by
                      simp only [List.map_cons, List.mem_cons] at h
                      rcases h with h | h
                      · exact hze h
                      · exact hfz.2 h⟩
                · have := Sl.mu
                  simp only [wts, List.map_cons, List.sum_cons] at this ⊢
                  lia
end

section
variable {C : Cx} {A : Around} {E : Value → Shared → Prop} {H H0 : AH} {a d0 d r : Addr} {ep : Nat} {N : List Nd} {rdy : List Int} {rd : Value} {p q : Int} {f : Fm} {L : Loc}

theorem ForT.inv {t : Expr} {body : List Stmt} {D : AH → Prop} {Q : Flow → Loc → AH → Prop} (I : List (List Value) → Loc → AH → Prop) (nil : ∀ L H, I [] L H → Q .next L H)
    (step : ∀ x xs L H, I (x :: xs) L H → ∀ r, H r = none → GW C A nx f t (.ref r) L (upd H r (.tuple x)) fun L1 H1 => SW C A nx f body L1 H1 (turnQ D Q (I xs))) : ∀ {xs : List (List Value)} {L : Loc} {H : AH}, I xs L H → ForT C A f t body D Q xs L H
  | [], L, H, h => nil L H h
  | x :: xs, L, H, h => fun r hr v ev => (step x xs L H h r hr v ev).mono fun _ L1 H1 z => TW.mono z fun fl L2 H2 y => turnQ.mono (fun L H q => ForT.inv I nil step q) y
theorem ForT.invT {t : Expr} {body : List Stmt} {D : AH → Prop} {Q : Flow → Loc → AH → Prop} (I : List (List Value) → Loc → AH → Prop) (nil : ∀ L H, I [] L H → Q .next L H)
    (step : ∀ x xs L H (T : Flow → Loc → AH → Prop), (∀ fl L H, turnQ D Q (I xs) fl L H → T fl L H) → I (x :: xs) L H → ∀ r, H r = none → GW C A nx f t (.ref r) L (upd H r (.tuple x)) fun L1 H1 => SW C A nx f body L1 H1 T) {xs : List (List Value)} {L : Loc} {H : AH} (h : I xs L H) : ForT C A f t body D Q xs L H :=
  ForT.inv I nil (fun x xs L H i => step x xs L H _ (fun _ _ _ q => q) i) h
theorem ne_of_none' {H : AH} {a b : Addr} {x : AO} (ha : H a = some x) (hb : H b = none) : b ≠ a := by first | exact no_some (ha) hb | exact (no_some (ha) hb).symm | exact no_some hb (ha) | exact (no_some hb (ha)).symm | exact two_ne (ha) hb (by intro q; cases q; done) | exact (two_ne (ha) hb (by intro q; cases q; done)).symm | (rintro rfl; rw [ha] at hb; cases hb)
theorem findObj_none {K : Frag} {c : Addr} {od : Obj} {name : Str} (e : lookIn name od = some none) : findObj K c (some od) name = findObj K c none name := by
  have key : ∀ cd, W.ownOf cd (some od) name = W.ownOf cd none name := by intro cd; unfold W.ownOf; simp [e]
  unfold findObj
  simp only [key]
noncomputable abbrev Gx := List (Int × Addr × List Int)
noncomputable def Gx.es (G : Gx) : List (Int × Value) := G.map fun x => (x.1, .ref x.2.1)
noncomputable def foldA (G : List (Int × List Int)) (P : Pd) : Pd := G.foldl (fun P x => addP P x.1 x.2) P
noncomputable def Gx.pl (G : Gx) : List (Int × List Int) := G.map fun x => (x.1, x.2.2)
noncomputable def szA (G : List (Int × List Int)) : Nat := (G.map fun x => x.2.length + 1).sum

theorem wpAny_is {α : Type} {M : Model} {A : Around} {E : Value → Shared → Prop} {s : Shared} {Q : α → Shared → Prop} {t t' : Sem α} (e : t = t') (h : wpAny M A t' Q E s) : wpAny M A t Q E s := e ▸ h
theorem addOk2 (X : Ctx C) {k : Nat} (hA : AIn C A (k + 5)) (S : Srt H a d0 d ep N .none p q) {i : Int} {t : Tok} {ps : List Int} {ps' : List Value} (hps : ps'.map er = ivs ps) (hsz : N.length + ps.length + 1 < 1000) {K : Nat} (hbd : Bd (N.map pv) K) (hK : K + ps.length ≤ 1000) :
    PC C A (.call (.ref 87) ⟨.ref a :: .int i t :: ps', []⟩) H fun v H' => er v = .none ∧ ∃ N' ep', Srt H' a d0 d ep' N' .none p q ∧ N'.map pv = addP (N.map pv) i ps ∧ Ext a d N N' H H' :=
  addOk (Q := fun v H' => v = .none ∧ ∃ N' ep', Srt H' a d0 d ep' N' .none p q ∧ N'.map pv = addP (N.map pv) i ps ∧ Ext a d N N' H H') X hA S hps (fun N' ep' H' h1 h2 h3 => ⟨rfl, N', ep', h1, h2, h3⟩) hsz hbd hK
end

set_option genInjectivity false in
structure FrameC (f : Fm) (names : List (Str × NameKind)) : Prop where
  kinds : ∀ x, f.env.kindOf x = names.lookup x
  loc : f.env.locals ∈ f.ow
  kind : f.env.scope.kind = .function
theorem Frame.c {f : Fm} {names : List (Str × NameKind)} (h : Frame f names) : FrameC f names := ⟨h.kinds, h.loc, h.kind⟩
noncomputable def relN (ns outer : List (Str × NameKind)) : List (Str × NameKind) := ns.map fun p => (p.1, if (p.2 == .free && outer.lookup p.1 == some .cell) then .cell else p.2)
noncomputable def scopeOk (scope : Scope) (outer : List (Str × NameKind)) : Bool :=
  (match scope.kind with | .function => true | _ => false) && decide ((scope.names.map (·.1)).Nodup) && scope.names.all fun p => p.2 != .free || outer.lookup p.1 == some .cell || outer.lookup p.1 == some .free
theorem scopeOk.ok {f : Fm} {scope : Scope} {outer : List (Str × NameKind)} (F : FrameC f outer) (h : scopeOk scope outer = true) : CompOk f.env scope := by
  simp only [scopeOk, Bool.and_eq_true, decide_eq_true_eq] at h
  obtain ⟨⟨h1, h2⟩, h3⟩ := h
  refine ⟨?_, h2, fun p hp e => ?_⟩
  · revert h1; cases scope.kind <;> simp
  · have := List.all_eq_true.mp h3 p hp
    simp only [e, bne_self_eq_false, Bool.false_or, Bool.or_eq_true, beq_iff_eq] at this
    unfold isC
    rw [F.kinds]
    exact this
theorem FrameC.comp {f : Fm} {scope : Scope} {outer : List (Str × NameKind)} (F : FrameC f outer) (h : scopeOk scope outer = true) (K : Addr) : FrameC (compFm f.env scope K) (relN scope.names outer) := by
  refine ⟨fun x => ?_, List.mem_cons_self, (scopeOk.ok F h).kind⟩
  rw [relabel_kind]
  unfold relN
  rw [lookup_map_fst (fun p => (p.1, if (p.2 == .free && outer.lookup p.1 == some .cell) then .cell else p.2)) (fun _ => rfl)]
  rw [F.kind, F.kinds]
  have hk : ((ScopeKind.function == ScopeKind.function) : Bool) = true := rfl
  simp only [hk, Bool.and_true]
noncomputable def Ge (H H' : AH) : Prop := ∀ b o, H b = some o → H' b = some o
theorem Ge.refl {H : AH} : Ge H H := fun _ _ h => h
theorem Ge.trans {H H' H'' : AH} (x : Ge H H') (y : Ge H' H'') : Ge H H'' := fun b o h => y b o (x b o h)
theorem Ge.upd {H : AH} {a : Addr} {o : AO} (h : H a = none) : Ge H (upd H a o) := upd_fresh h
noncomputable def Ga (a : Addr) (H H' : AH) : Prop := ∀ b o, b ≠ a → H b = some o → H' b = some o
section
variable {C : Cx} {A : Around} {E : Value → Shared → Prop} {H H0 : AH} {a d0 d r : Addr} {f : Fm} {L : Loc}
theorem IfsW.mono : ∀ {cs : List Expr} {L : Loc} {H : AH} {Q Q' : Bool → Loc → AH → Prop}, IfsW C A f cs L H Q → (∀ b L H, Q b L H → Q' b L H) → IfsW C A f cs L H Q'
  | [], L, H, Q, Q', h, k => k _ _ _ h
  | c :: cs, L, H, Q, Q', h, k => by
    refine TW.mono h fun b L1 H1 q => ?_
    cases b with
    | true => exact IfsW.mono (cs := cs) q k
    | false => exact k _ _ _ q
theorem lookup_mem {α : Type} : ∀ {l : List (Str × α)} {x : Str} {v : α}, l.lookup x = some v → (x, v) ∈ l
  | [], _, _, h => by cases h
  | (y, u) :: l, x, v, h => by
    by_cases e : x = y
    · subst e
      rw [List.lookup_cons_self] at h; cases h; exact List.mem_cons_self
    · have : (x == y) = false := by simpa using e
      rw [List.lookup_cons, this] at h
      exact List.mem_cons_of_mem _ (lookup_mem h)
noncomputable def ownK : Option NameKind → Bool
  | some .local => true
  | some .cell => true
  | _ => false
theorem ownK.or {k : Option NameKind} (h : ownK k = true) : k = some .local ∨ k = some .cell := by
  cases k with
  | none => cases h
  | some k => cases k <;> first | exact .inl rfl | exact .inr rfl | cases h
theorem compFm_cell {env : Env} {scope : Scope} {K : Addr} {x : Str} (hx : scope.names.lookup x = some .cell) : ∀ c, (compFm env scope K).env.cells.lookup x = some c → c ∈ (compFm env scope K).ow := by
  intro c hc
  have h1 : (cellsFrom (K + 1) scope.names (closOf env.cells scope.names [])).lookup x = some c := hc
  rw [cellsFrom_append, List.lookup_append] at h1
  have h2 := cellsFrom_some scope.names (K + 1) [] x hx
  cases e : (cellsFrom (K + 1) scope.names []).lookup x with
  | none => rw [e] at h2; cases h2
  | some c' =>
    rw [e] at h1
    cases h1
    refine List.mem_cons_of_mem _ (List.mem_filterMap.mpr ⟨(x, .cell), ?_, ?_⟩)
    · exact lookup_mem hx
    · show (if scope.names.lookup x = some .cell then _ else none) = _
      rw [if_pos hx]; exact e
noncomputable def CompJ (C : Cx) (A : Around) (scope : Scope) (outer : List (Str × NameKind)) (x : Str) (elt : Expr) (ifs : List Expr) (L1 : Loc) (H1 : AH) (xv : Value) (K : Addr → AH → Prop) : Prop :=
  ∃ xs D, D H1 ∧ IterP C A xv xs D ∧ xs.length ≤ 1000 ∧ (∀ H', Ge H1 H' → D H') ∧ ∀ a, H1 a = none → ∃ J : List Value → List Value → AH → Prop, J xs [] H1 ∧ (∀ us ys H H', Ga a H H' → J us ys H → J us ys H') ∧
    (∀ f' u us ys L2 H2, FrameC f' (relN scope.names outer) → Ge H1 H2 → (∀ y, scope.names.lookup y = some .free → L2 y = L1 y) → L2 x = some u → H2 a = some (.list ys) → J (u :: us) ys H2 →
      IfsW C A f' ifs L2 H2 fun ok L3 H3 => if ok then EW C A nx f' elt L3 H3 (fun v L4 H4 => An3 (L4 = L2) (Ge H2 H4) (J us (ys ++ [v]) H4)) else An3 (L3 = L2) (Ge H2 H3) (J us ys H3)) ∧
    ∀ ys H', Ge H1 H' → H' a = some (.list ys) → J [] ys H' → K a H'
theorem CompJ.loop {scope : Scope} {outer : List (Str × NameKind)} {x : Str} {xp : Pos} {elt it : Expr} {ifs : List Expr} {L1 : Loc} {H1 : AH} {xv : Value} {K : Addr → AH → Prop} (F : FrameC f outer) (hsc : scopeOk scope outer = true) (hx : ownK (scope.names.lookup x) = true)
    (h : CompJ C A scope outer x elt ifs L1 H1 xv K) :
    ∃ xs D, D H1 ∧ IterP C A xv xs D ∧ ∀ a, H1 a = none → D (upd H1 a (.list [])) ∧
      ∀ K', loopC (turnC C A (compFm f.env scope K') ⟨.Name x xp, it, ifs, 0⟩ (CompG C A (compFm f.env scope K') (emList C A (compFm f.env scope K') elt a) [])) D xs (compL scope L1) (upd H1 a (.list [])) fun _ H2 => K a H2 := by
  obtain ⟨xs, D, d1, ip, hlen, hD, h⟩ := h
  refine ⟨xs, D, d1, ip, fun a ha => ⟨hD _ (.upd ha), fun K' => ?_⟩⟩
  obtain ⟨J, j0, js, jstep, jend⟩ := h a ha
  have FC := F.comp hsc K'
  have hxg : ∀ (v : Value) (L : Loc) (H : AH) (Q : Loc → AH → Prop), Q (setL L x v) H → GW C A nx (compFm f.env scope K') (.Name x xp) v L H Q := by
    intro v L H Q q
    have hxk : (compFm f.env scope K').env.kindOf x = scope.names.lookup x := by
      rw [FC.kinds]; unfold relN
      rw [lookup_map_fst (fun p => (p.1, if (p.2 == .free && outer.lookup p.1 == some .cell) then .cell else p.2)) (fun _ => rfl)]
      rcases ownK.or hx with h | h <;> rw [h] <;> rfl
    rcases ownK.or hx with h | h
    · exact GW.local (hxk.trans h) FC.loc q
    · exact GW.cell (hxk.trans h) (compFm_cell h) q
  have hxf : ∀ y, scope.names.lookup y = some .free → y ≠ x := by
    rintro y hy rfl; rw [hy] at hx; cases hx
  have key : ∀ us ys L2 H2, ys.length + us.length ≤ 1000 → Ge H1 H2 → H2 a = some (.list ys) → (∀ y, scope.names.lookup y = some .free → L2 y = L1 y) → J us ys H2 →
      loopC (turnC C A (compFm f.env scope K') ⟨.Name x xp, it, ifs, 0⟩ (CompG C A (compFm f.env scope K') (emList C A (compFm f.env scope K') elt a) [])) D us L2 H2 fun _ H2 => K a H2 := by
    intro us
    induction us with
    | nil => intro ys L2 H2 _ g ha2 hl j; exact jend ys H2 g ha2 j
    | cons u us ih =>
      intro ys L2 H2 hlen g ha2 hl j
      simp only [List.length_cons] at hlen
      refine hxg _ _ _ _ ?_
      have hl2 : ∀ y, scope.names.lookup y = some .free → setL L2 x u y = L1 y := fun y hy => by
        rw [setL_ne (hxf y hy)]; exact hl y hy
      refine IfsW.mono (jstep _ u us ys _ H2 FC g hl2 setL_same ha2 j) fun ok L3 H3 q => ?_
      cases ok with
      | false =>
        obtain ⟨rfl, g3, j3⟩ := q
        exact ⟨hD _ (g.trans g3), ih ys _ H3 (by lia) (g.trans g3) (g3 _ _ ha2) hl2 j3⟩
      | true =>
        refine TW.mono q fun v L4 H4 ⟨e4, g4, j4⟩ => ?_
        subst e4
        have g5 : Ge H1 (upd H4 a (.list (ys ++ [er v]))) := fun b o hb => by
          have hba : b ≠ a := by first | exact no_some (ha) hb | exact (no_some (ha) hb).symm | exact no_some hb (ha) | exact (no_some hb (ha)).symm | exact two_ne (ha) hb (by intro q; cases q; done) | exact (two_ne (ha) hb (by intro q; cases q; done)).symm | (rintro rfl; rw [ha] at hb; cases hb)
          rw [upd_ne _ _ hba]; exact g4 _ _ (g _ _ hb)
        refine ⟨ys, g4 _ _ ha2, Nat.le_trans (by lia) (by decide : 1000 ≤ sizeLine), hD _ g5, ih _ _ _ (by simp; lia) g5 (upd_self ..) hl2 (js _ _ _ _ (fun b o hb e => by rw [upd_ne _ _ hb]; exact e) j4)⟩
  refine key xs [] _ _ (by simpa using hlen) (.upd ha) (upd_self ..) (fun y hy => ?_) (js _ _ _ _ (fun b o hb e => by rw [upd_ne _ _ hb]; exact e) j0)
  unfold compL; rw [hy]
theorem EW.lcompJ {elt it : Expr} {ifs : List Expr} {x : Str} {xp p : Pos} {scope : Scope} {outer : List (Str × NameKind)} {Q : Value → Loc → AH → Prop} (F : FrameC f outer) (hsc : scopeOk scope outer = true) (hx : ownK (scope.names.lookup x) = true) (hs : ∀ env v, foldedSetIterable it env v = pure v)
    (h : EW C A E f it L H fun xv L1 H1 => CompJ C A scope outer x elt ifs L1 H1 xv fun a H' => Q (.ref a) L1 H') :
    EW C A E f (.ListComp elt [⟨.Name x xp, it, ifs, 0⟩] scope p) L H Q := by
  refine EW.listComp (scopeOk.ok F hsc) (fun K' g' hg => ?_) (hs _) (TW.mono h fun v L1 H1 q => CompJ.loop F hsc hx q)
  cases List.mem_singleton.mp hg
  exact ⟨rfl, hs _⟩
theorem XW.setCompJ {y : Str} {yp sp : Pos} {elt it : Expr} {ifs : List Expr} {x : Str} {xp p : Pos} {scope : Scope} {outer : List (Str × NameKind)} {Q : Flow → Loc → AH → Prop} (F : FrameC f outer) (hsc : scopeOk scope outer = true) (hx : ownK (scope.names.lookup x) = true) (hs : ∀ env v, foldedSetIterable it env v = pure v)
    (hy : outer.lookup y = some .local) (hsw : swapsWith (.ListComp elt [⟨.Name x xp, it, ifs, 0⟩] scope p) (some (.Name y yp)) sp.line f.env = pure true)
    (h : EW C A E f it L H fun xv L1 H1 => CompJ C A scope outer x elt ifs L1 H1 xv fun a H' => Q .next (setL L1 y (.ref a)) H') :
    XW C A E f (.Assign [.Name y yp] (.ListComp elt [⟨.Name x xp, it, ifs, 0⟩] scope p) sp) L H Q := by
  refine XW.setComp (scopeOk.ok F hsc) (fun K' g' hg => ?_) (hs _) ((F.kinds y).trans hy) F.loc (TW.mono h fun v L1 H1 q => CompJ.loop F hsc hx q) hsw
  cases List.mem_singleton.mp hg
  exact ⟨rfl, hs _⟩
noncomputable def selI (c : Int → Bool) : Value → Option Value
  | .int n _ => if c n then some (.int n 0) else none
  | _ => none
end

local macro_rules | `(tactic| walk_at "wkind") => `(tactic| exact FrameC.kinds (by assumption))
local macro_rules | `(tactic| walk_at "wkg") => `(tactic| exact kindE (FrameC.kinds (by assumption)) (by kernel_rfl!))
section
variable {C : Cx} {A : Around} {E : Value → Shared → Prop} {H H0 : AH} {a d0 d r : Addr} {ep : Nat} {N : List Nd} {rdy : List Int} {rd : Value} {p q : Int} {f : Fm} {L : Loc}
theorem IfsW.one {c : Expr} {Q : Bool → Loc → AH → Prop} (h : BW C A nx f c L H Q) : IfsW C A f [c] L H Q := by
  refine TW.mono h fun b L1 H1 q => ?_
  cases b <;> exact q
theorem ite_t {P Q : Prop} (h : P) : if (true = true) then P else Q := h
theorem ite_f {P Q : Prop} (h : Q) : if (false = true) then P else Q := by rw [if_neg (by decide)]; exact h
noncomputable def rdy0 (P : Pd) : List Int := (P.filter fun x => decide (x.2.1 = 0)).map (·.1)
set_option maxHeartbeats 2000000 in
theorem prepareOk (X : Ctx C) {k : Nat} (hA : AIn C A (k + 2)) (S : Srt H a d0 d ep N .none 0 0) (hcl : ∀ n ∈ N, ∀ s ∈ n.su, s ∈ N.map (·.v)) (hbd : Bd (N.map pv) 1000) (hinc : ∀ n ∈ N, ∀ s ∈ n.su, n.v < s) :
    PC C A (.call (.ref 92) ⟨[.ref a], []⟩) H fun v H' => er v = .none ∧ ∃ r, H r = none ∧ Opn H' a d0 d ep r N (rdy0 (N.map pv)) 0 0 ∧ ∀ b o, H b = some o → b ≠ a → H' b = some o := by
  refine PC.fnP (Q := fun v H' => v = .none ∧ ∃ r, H r = none ∧ Opn H' a d0 d ep r N (rdy0 (N.map pv)) 0 0 ∧ ∀ b o, H b = some o → b ≠ a → H' b = some o) [("self", .ref a)] X.O hA (X.look rfl) (by walk_at "kk") rfl rfl rfl rfl rfl rfl rfl rfl rfl rfl ?_
  intro L f A' O' FS hA' hF
  have X' := X.push L
  simp only [locB, List.map_cons, List.map_nil, List.foldl_cons, List.foldl_nil]
  refine SW.hide fun RR hRR => ?_
  walk_at "ww"
  refine P1.attr (cls137 X') S.inst rfl rfl rfl (by walk_at "tl") fun v ev => ?_
  rw [ev]
  walk_at "ww"
  refine P2.isNotNone ⟨_, rfl, ?_⟩
  refine SW.nil ?_
  walk_at "ww"
  refine EW.lcompJ FS.c rfl rfl (fun _ _ => rfl) ?_
  walk_at "ww"
  refine P1.attr (cls137 X') S.inst rfl rfl rfl (by walk_at "tl") fun v ev => ?_
  rw [ev]
  refine MethP.dict S.dict F.slot_dict_values F.type_dict_values ?_
  walk_at "ww"
  refine ⟨KeepOk.builtin, CallP.dvalues S.dict fun vw hvw => ?_⟩
  have hd1 : upd H vw (.obj (viewObj "dict_values" d)) d = some (.dict (n2i N) ep) := upd_fresh hvw _ _ S.dict
  refine ⟨_, _, ⟨upd_self .., hd1⟩, IterP.values hA'.hd, by simpa [n2i] using S.sz, fun H' g => ⟨g _ _ (upd_self ..), g _ _ hd1⟩, fun r hr => ⟨fun us ys _ => ∃ M : List Nd, us = M.map (fun n => .ref n.a) ∧ (∀ n ∈ M, n ∈ N) ∧ ys ++ ivs (rdy0 (M.map pv)) = ivs (rdy0 (N.map pv)), ⟨N, by simp [n2i], fun _ h => h, rfl⟩, fun _ _ _ _ _ h => h, ?_, ?_⟩⟩
  · rintro f' u us ys L2 H2 FC g hl hu _ ⟨M, e, hM, j⟩
    cases M with
    | nil => cases e
    | cons m M =>
      cases e
      have hm : m ∈ N := hM m List.mem_cons_self
      have hn2 : H2 m.a = some (ndObj m) := g _ _ (upd_fresh hvw _ _ (S.node m hm))
      refine IfsW.one ?_
      walk_at "ww"
      refine P1.slot (p := 42) (i := 1) O' hn2 (by walk_at "kk") (by walk_at "kk") (fun od => by walk_at "kk") (by walk_at "kk") rfl rfl fun v ev => ?_
      rw [ev]
      walk_at "ww"
      refine P2.eq ⟨_, rfl, ?_⟩
      have hpv : pv m = (m.v, m.np, m.su) := rfl
      have hM' : ∀ n ∈ M, n ∈ N := fun n hn => hM n (List.mem_cons_of_mem _ hn)
      cases e0 : (m.np == 0) with
      | false =>
        refine ite_f ⟨rfl, .refl, M, rfl, hM', ?_⟩
        rw [← j, List.map_cons]
        have : decide (m.np = 0) = false := by simpa using e0
        simp [rdy0, hpv, this]
      | true =>
        refine ite_t ?_
        walk_at "ww"
        refine P1.slot (p := 41) (i := 0) O' hn2 (by walk_at "kk") (by walk_at "kk") (fun od => by walk_at "kk") (by walk_at "kk") rfl rfl fun v ev => ?_
        rw [ev]
        refine ⟨rfl, .refl, M, rfl, hM', ?_⟩
        rw [← j, List.map_cons]
        have : decide (m.np = 0) = true := by simpa using e0
        simp [rdy0, hpv, this, ivs]
  · rintro ys H1 g1 hr1 ⟨M, e, _, j⟩
    cases M with
    | cons _ _ => cases e
    | nil =>
      have j : ys = ivs (rdy0 (N.map pv)) := by simpa [rdy0, ivs] using j
      subst j
      have g2 : Ge H H1 := (Ge.upd hvw).trans g1
      have hr0 : H r = none := by
        cases e : H r with
        | none => rfl
        | some o => rw [(Ge.upd hvw) r o e] at hr; cases hr
      walk_at "ww"
      intro o' v' eo ev'
      have eo := er_ref eo; subst eo
      refine setAttr_inst (cls137 X') (g2 _ _ S.inst) rfl (by walk_at "tl") (show 4 ≤ 1000 by decide) ?_
      rw [ev']
      have hra : r ≠ a := ne_of_none' S.inst hr0
      change SW _ _ _ _ _ _ (upd H1 a (.inst 137 d0 (flds d (.ref r) 0 0) [])) _
      have k1 : ∀ b o, H b = some o → b ≠ a → upd H1 a (.inst 137 d0 (flds d (.ref r) 0 0) []) b = some o := fun b o hb hn => (upd_ne _ _ hn).trans (g2 _ _ hb)
      have hdn : d ≠ a := ne_of_obj S.dict S.inst (by simp)
      have hna : ∀ n ∈ N, n.a ≠ a := fun n hn e => by have h1 := S.node n hn; rw [e, S.inst] at h1; simp [ndObj] at h1
      have hsa : ∀ n ∈ N, n.s ≠ a := fun n hn => ne_of_obj (S.list n hn) S.inst (by simp)
      have S2 : Srt (upd H1 a (.inst 137 d0 (flds d (.ref r) 0 0) [])) a d0 d ep N (.ref r) 0 0 :=
        ⟨upd_self .., k1 _ _ S.dict hdn, fun n hn => k1 _ _ (S.node n hn) (hna n hn), fun n hn => k1 _ _ (S.list n hn) (hsa n hn), S.nv, S.na, S.ns, S.sz⟩
      have O2 : Opn (upd H1 a (.inst 137 d0 (flds d (.ref r) 0 0) [])) a d0 d ep r N (rdy0 (N.map pv)) 0 0 :=
        ⟨S2, (upd_ne _ _ hra).trans hr1, fun n hn e => by have := S.list n hn; rw [e, hr0] at this; cases this⟩
      generalize upd H1 a (.inst 137 d0 (flds d (.ref r) 0 0) []) = H3 at k1 S2 O2 ⊢
      walk_at "ww"
      refine MethP.inst (fa := 127) (y := none) (cls137 X') S2.inst rfl (X'.O.kin _ _ (X'.look rfl)) rfl (by walk_at "tl") rfl ?_
      walk_at "ww"
      refine ⟨KeepOk.known O' (by walk_at "kk") ⟨_, rfl⟩, CallP.fn fun vs' ev => ?_⟩
      obtain ⟨v1, rfl, ev1⟩ := map1 ev
      cases er_ref ev1
      refine PC.mono (findCycle (Q := fun v H' => v = .none ∧ Ge H3 H') X' hA' S2 hcl hbd (Z := []) (by simp) (fun _ H' g => ⟨rfl, g⟩) (fun hn => absurd hinc hn)) ?_
      rintro v H4 ⟨e4, g4⟩
      rw [e4]
      walk_at "ww"
      refine P1.truthy_none ?_
      refine SW.nil ?_
      walk_at "ww"
      exact hRR _ _ _ ⟨rfl, r, hr0, O2.mono fun b o hb _ => g4 b o hb, fun b o hb hn => g4 _ _ (k1 b o hb hn)⟩
end

noncomputable def ky (P : Pd) : List Int := P.map (·.1)
noncomputable def fdP (P : Pd) (i : Int) : Option (Int × Int × List Int) := P.find? fun y => decide (y.1 = i)
theorem npAt_fd (P : Pd) (i : Int) : npAt P i = ((fdP P i).map fun y => y.2.1).getD 0 := rfl
theorem suAt_fd (P : Pd) (i : Int) : suAt P i = ((fdP P i).map fun y => y.2.2).getD [] := rfl
theorem fd_map (P : Pd) (f : Int × Int × List Int → Int × Int × List Int) (hf : ∀ y, (f y).1 = y.1) (i : Int) : fdP (P.map f) i = (fdP P i).map f := by
  unfold fdP
  rw [List.find?_map]
  congr 2
  funext y
  simp [hf]
theorem fd_key {P : Pd} {i : Int} {y : Int × Int × List Int} (h : fdP P i = some y) : y.1 = i := by
  have := List.find?_some h
  simpa using this
theorem fd_some {P : Pd} {i : Int} (h : i ∈ ky P) : ∃ y, fdP P i = some y := by
  obtain ⟨y, hy, e⟩ := List.mem_map.mp h
  cases e2 : fdP P i with
  | some z => exact ⟨z, rfl⟩
  | none =>
    have := List.find?_eq_none.mp e2 y hy
    simp [e] at this
theorem fd_none {P : Pd} {i : Int} (h : i ∉ ky P) : fdP P i = none := by
  refine List.find?_eq_none.mpr fun y hy => ?_
  have : y.1 ≠ i := by rintro rfl; exact h (List.mem_map.mpr ⟨y, hy, rfl⟩)
  simpa using this
theorem ky_set (P : Pd) (i x : Int) : ky (setP P i x) = ky P := keys_set P i x
theorem ky_np (P : Pd) (i x : Int) : ky (npP P i x) = ky P := keys_np P i x
theorem ky_su (P : Pd) (i x : Int) : ky (suP P i x) = ky P := by
  unfold ky suP; rw [List.map_map]; congr 1; funext y; simp only [Function.comp]; split <;> rfl
theorem ky_g (P : Pd) (i : Int) : ky (gP P i) = if i ∈ ky P then ky P else ky P ++ [i] := by
  unfold gP; by_cases h : i ∈ P.map (·.1)
  · rw [if_pos h, if_pos (show i ∈ ky P from h)]
  · rw [if_neg h, if_neg (show i ∉ ky P from h)]; simp [ky]
theorem np_set {P : Pd} {i : Int} (hi : i ∈ ky P) (x j : Int) : npAt (setP P i x) j = if j = i then x else npAt P j := by
  rw [npAt_fd, npAt_fd, setP, fd_map _ _ (by intro y; split <;> rfl)]
  by_cases h : j ∈ ky P
  · obtain ⟨y, e⟩ := fd_some h
    have := fd_key e
    rw [e]
    by_cases hj : j = i
    · subst hj; simp [this]
    · simp [this, hj]
  · rw [fd_none h]
    have : j ≠ i := by rintro rfl; exact h hi
    simp [this]
theorem np_np {P : Pd} {i : Int} (hi : i ∈ ky P) (x j : Int) : npAt (npP P i x) j = npAt P j + if j = i then x else 0 := by
  rw [npAt_fd, npAt_fd, npP, fd_map _ _ (by intro y; split <;> rfl)]
  by_cases h : j ∈ ky P
  · obtain ⟨y, e⟩ := fd_some h
    have := fd_key e
    rw [e]
    by_cases hj : j = i
    · subst hj; simp [this]
    · simp [this, hj]
  · rw [fd_none h]
    have : j ≠ i := by rintro rfl; exact h hi
    simp [this]
theorem np_su (P : Pd) (i x j : Int) : npAt (suP P i x) j = npAt P j := by
  rw [npAt_fd, npAt_fd, suP, fd_map _ _ (by intro y; split <;> rfl)]
  cases fdP P j with
  | none => rfl
  | some y => by_cases hj : y.1 = i <;> simp [hj]
theorem su_set (P : Pd) (i x j : Int) : suAt (setP P i x) j = suAt P j := by
  rw [suAt_fd, suAt_fd, setP, fd_map _ _ (by intro y; split <;> rfl)]
  cases fdP P j with
  | none => rfl
  | some y => by_cases hj : y.1 = i <;> simp [hj]
theorem su_np (P : Pd) (i x j : Int) : suAt (npP P i x) j = suAt P j := by
  rw [suAt_fd, suAt_fd, npP, fd_map _ _ (by intro y; split <;> rfl)]
  cases fdP P j with
  | none => rfl
  | some y => by_cases hj : y.1 = i <;> simp [hj]
theorem su_su {P : Pd} {i : Int} (hi : i ∈ ky P) (x j : Int) : suAt (suP P i x) j = suAt P j ++ if j = i then [x] else [] := by
  rw [suAt_fd, suAt_fd, suP, fd_map _ _ (by intro y; split <;> rfl)]
  by_cases h : j ∈ ky P
  · obtain ⟨y, e⟩ := fd_some h
    have := fd_key e
    rw [e]
    by_cases hj : j = i
    · subst hj; simp [this]
    · simp [this, hj]
  · rw [fd_none h]
    have : j ≠ i := by rintro rfl; exact h hi
    simp [this]
theorem fd_g (P : Pd) (i j : Int) : fdP (gP P i) j = if j ∈ ky P then fdP P j else if j = i then some (i, 0, []) else none := by
  unfold gP
  by_cases h : i ∈ P.map (·.1)
  · rw [if_pos h]
    by_cases hj : j ∈ ky P
    · rw [if_pos hj]
    · have : j ≠ i := by rintro rfl; exact hj h
      rw [if_neg hj, if_neg this, fd_none hj]
  · rw [if_neg h]
    unfold fdP
    rw [List.find?_append]
    by_cases hj : j ∈ ky P
    · rw [if_pos hj]
      obtain ⟨y, e⟩ := fd_some hj
      unfold fdP at e; rw [e]; rfl
    · rw [if_neg hj]
      have := fd_none hj
      unfold fdP at this; rw [this]
      by_cases hi : j = i
      · subst hi; simp
      · simp [hi, Ne.symm hi]
theorem np_g (P : Pd) (i j : Int) : npAt (gP P i) j = npAt P j := by
  rw [npAt_fd, npAt_fd, fd_g]
  by_cases hj : j ∈ ky P
  · rw [if_pos hj]
  · rw [if_neg hj, fd_none hj]
    by_cases hi : j = i <;> simp [hi]
theorem su_g (P : Pd) (i j : Int) : suAt (gP P i) j = suAt P j := by
  rw [suAt_fd, suAt_fd, fd_g]
  by_cases hj : j ∈ ky P
  · rw [if_pos hj]
  · rw [if_neg hj, fd_none hj]
    by_cases hi : j = i <;> simp [hi]
theorem mem_g (P : Pd) (i j : Int) : j ∈ ky (gP P i) ↔ j ∈ ky P ∨ j = i := by
  rw [ky_g]; split
  · rename_i h; exact ⟨.inl, fun q => q.elim id (by rintro rfl; exact h)⟩
  · simp
theorem nd_g {P : Pd} (h : (ky P).Nodup) (i : Int) : (ky (gP P i)).Nodup := by
  rw [ky_g]; split
  · exact h
  · rename_i hi; exact nodup_snoc h hi
noncomputable def FF (i : Int) (ps : List Int) (P : Pd) : Pd := ps.foldl (fun P p => suP (gP P p) p i) P
theorem FF_all (i : Int) : ∀ (ps : List Int) (P : Pd), (∀ j, npAt (FF i ps P) j = npAt P j) ∧ (∀ a s, (suAt (FF i ps P) a).count s = (suAt P a).count s + if s = i then ps.count a else 0) ∧ (∀ j, j ∈ ky (FF i ps P) ↔ j ∈ ky P ∨ j ∈ ps) ∧ ((ky P).Nodup → (ky (FF i ps P)).Nodup)
  | [], P => by simp [FF]
  | p :: ps, P => by
    obtain ⟨h1, h2, h3, h4⟩ := FF_all i ps (suP (gP P p) p i)
    have hp : p ∈ ky (gP P p) := (mem_g P p p).mpr (.inr rfl)
    refine ⟨fun j => ?_, fun a s => ?_, fun j => ?_, fun hn => ?_⟩
    · show npAt (FF i ps _) j = _
      rw [h1, np_su, np_g]
    · show (suAt (FF i ps _) a).count s = _
      rw [h2, su_su hp, su_g, List.count_append, List.count_cons]
      by_cases ha : a = p
      · subst ha
        by_cases hs : s = i
        · subst hs; simp; lia
        · have : ¬ i = s := fun e => hs e.symm
          simp [hs, this]
      · have : ¬ p = a := fun e => ha e.symm
        by_cases hs : s = i <;> simp [ha, hs, this]
    · show j ∈ ky (FF i ps _) ↔ _
      rw [h3, ky_su, mem_g, List.mem_cons, or_assoc]
    · refine h4 ?_
      rw [ky_su]; exact nd_g hn p
theorem addP_all (P : Pd) (i : Int) (ps : List Int) : (∀ j, npAt (addP P i ps) j = npAt P j + if j = i then (ps.length : Int) else 0) ∧ (∀ a s, (suAt (addP P i ps) a).count s = (suAt P a).count s + if s = i then ps.count a else 0) ∧ (∀ j, j ∈ ky (addP P i ps) ↔ j ∈ ky P ∨ j = i ∨ j ∈ ps) ∧ ((ky P).Nodup → (ky (addP P i ps)).Nodup) := by
  obtain ⟨h1, h2, h3, h4⟩ := FF_all i ps (npP (gP P i) i ps.length)
  have hi : i ∈ ky (gP P i) := (mem_g P i i).mpr (.inr rfl)
  refine ⟨fun j => ?_, fun a s => ?_, fun j => ?_, fun hn => ?_⟩
  · show npAt (FF i ps _) j = _
    rw [h1, np_np hi, np_g]
  · show (suAt (FF i ps _) a).count s = _
    rw [h2, su_np, su_g]
  · show j ∈ ky (FF i ps _) ↔ _
    rw [h3, ky_np, mem_g, or_assoc]
  · refine h4 ?_
    rw [ky_np]; exact nd_g hn i
noncomputable def sumL (G : List (Int × List Int)) (j : Int) (m : List Int → Nat) : Nat := (G.map fun x => if x.1 = j then m x.2 else 0).sum
theorem foldA_all : ∀ (G : List (Int × List Int)) (P : Pd), (∀ j, npAt (foldA G P) j = npAt P j + (sumL G j List.length : Nat)) ∧ (∀ a s, (suAt (foldA G P) a).count s = (suAt P a).count s + sumL G s (List.count a)) ∧ (∀ j, j ∈ ky (foldA G P) ↔ j ∈ ky P ∨ ∃ x ∈ G, j = x.1 ∨ j ∈ x.2) ∧ ((ky P).Nodup → (ky (foldA G P)).Nodup)
  | [], P => by simp [foldA, sumL]
  | x :: G, P => by
    obtain ⟨h1, h2, h3, h4⟩ := foldA_all G (addP P x.1 x.2)
    obtain ⟨k1, k2, k3, k4⟩ := addP_all P x.1 x.2
    refine ⟨fun j => ?_, fun a s => ?_, fun j => ?_, fun hn => h4 (k4 hn)⟩
    · show npAt (foldA G _) j = _
      rw [h1, k1]
      by_cases hj : j = x.1
      · subst hj; simp [sumL]; lia
      · have : ¬ x.1 = j := fun e => hj e.symm
        simp [sumL, hj, this]
    · show (suAt (foldA G _) a).count s = _
      rw [h2, k2]
      by_cases hj : s = x.1
      · subst hj; simp [sumL]; lia
      · have : ¬ x.1 = s := fun e => hj e.symm
        simp [sumL, hj, this]
    · show j ∈ ky (foldA G _) ↔ _
      rw [h3, k3]
      simp only [List.mem_cons, exists_eq_or_imp, or_assoc]
theorem sum_one (v : Int → Nat) (j : Int) : ∀ {ks : List Int}, ks.Nodup → (ks.map fun k => if k = j then v k else 0).sum = if j ∈ ks then v j else 0
  | [], _ => rfl
  | k :: ks, h => by
    obtain ⟨h1, h2⟩ := List.nodup_cons.mp h
    rw [List.map_cons, List.sum_cons, sum_one v j h2]
    by_cases e : k = j
    · subst e; simp [h1]
    · have : ¬ j = k := fun q => e q.symm
      simp [e, this]
theorem sumL_map {ks : List Int} (h : ks.Nodup) (g : Int → List Int) (j : Int) (m : List Int → Nat) : sumL (ks.map fun k => (k, g k)) j m = if j ∈ ks then m (g j) else 0 := by
  unfold sumL
  rw [List.map_map]
  exact sum_one (fun k => m (g k)) j h
theorem sumL_append (G G' : List (Int × List Int)) (j : Int) (m : List Int → Nat) : sumL (G ++ G') j m = sumL G j m + sumL G' j m := by simp [sumL]

set_option genInjectivity false in
structure SI (g : Int → List Int) (J : Int → Prop) (P : Pd) (rdy U D : List Int) (p q : Int) : Prop where
  keys : ∀ j, j ∈ ky P ↔ J j
  nd : (ky P).Nodup
  su : ∀ a s, (suAt P a).count s = if s ∈ ky P then (g s).count a else 0
  nu : (rdy ++ U ++ D).Nodup
  out : ∀ j ∈ U, npAt P j = -1
  dn : ∀ j ∈ D, npAt P j = -2
  pend : ∀ j, J j → j ∉ U → j ∉ D → npAt P j = ((g j).countP fun a => decide (a ∉ D) : Nat)
  rd : ∀ j, j ∈ rdy ↔ J j ∧ j ∉ U ∧ j ∉ D ∧ ∀ a ∈ g j, a ∈ D
  cl : ∀ j, j ∈ U ∨ j ∈ D → J j ∧ ∀ a ∈ g j, a ∈ D
  pq : p = q + U.length
section
variable {g : Int → List Int} {J : Int → Prop} {P : Pd} {rdy U D : List Int} {p q : Int}
theorem SI.perm (S : SI g J P rdy U D p q) {U' D' : List Int} (hU : U.Perm U') (hD : D.Perm D') : SI g J P rdy U' D' p q := by
  refine ⟨S.keys, S.nd, S.su, ?_, fun j hj => S.out j (hU.mem_iff.mpr hj), fun j hj => S.dn j (hD.mem_iff.mpr hj), ?_, ?_, ?_, by rw [S.pq, hU.length_eq]⟩
  · exact (((List.Perm.refl rdy).append hU).append hD).nodup_iff.mp S.nu
  · intro j hj h1 h2
    rw [S.pend j hj (fun h => h1 (hU.mem_iff.mp h)) (fun h => h2 (hD.mem_iff.mp h))]
    congr 2; funext a; simp [hD.mem_iff]
  · intro j; rw [S.rd]; simp only [hU.mem_iff, hD.mem_iff]
  · intro j hj
    have := S.cl j (by simpa only [hU.mem_iff, hD.mem_iff] using hj)
    simpa only [hD.mem_iff] using this
theorem SI.ready (S : SI g J P rdy U D p q) : SI g J (outP P rdy) [] (U ++ rdy) D (p + rdy.length) q := by
  have key : ∀ (is : List Int) (P : Pd), (∀ i ∈ is, i ∈ ky P) → (∀ j, npAt (outP P is) j = if j ∈ is then -1 else npAt P j) ∧ (∀ a, suAt (outP P is) a = suAt P a) ∧ ky (outP P is) = ky P := by
    intro is
    induction is with
    | nil => intro P _; simp [outP]
    | cons i is ih =>
      intro P h
      obtain ⟨h1, h2, h3⟩ := ih (setP P i (-1)) (fun j hj => by rw [ky_set]; exact h j (List.mem_cons_of_mem _ hj))
      have hi : i ∈ ky P := h i List.mem_cons_self
      refine ⟨fun j => ?_, fun a => ?_, ?_⟩
      · show npAt (outP (setP P i (-1)) is) j = _
        rw [h1, np_set hi]
        by_cases hj : j ∈ is
        · simp [hj]
        · by_cases hji : j = i <;> simp [hj, hji]
      · show suAt (outP (setP P i (-1)) is) a = _
        rw [h2, su_set]
      · show ky (outP (setP P i (-1)) is) = _
        rw [h3, ky_set]
  obtain ⟨h1, h2, h3⟩ := key rdy P (fun i hi => (S.keys i).mpr ((S.rd i).mp hi).1)
  have hnu := S.nu
  rw [List.append_assoc, List.nodup_append] at hnu
  obtain ⟨n1, n2, n3⟩ := hnu
  have hdisj : ∀ j ∈ rdy, j ∉ U ∧ j ∉ D := fun j hj => ⟨((S.rd j).mp hj).2.1, ((S.rd j).mp hj).2.2.1⟩
  refine ⟨fun j => by rw [h3]; exact S.keys j, by rw [h3]; exact S.nd, fun a s => by rw [h2, h3]; exact S.su a s, ?_, ?_, ?_, ?_, ?_, ?_, ?_⟩
  · have : (rdy ++ U ++ D).Perm (U ++ rdy ++ D) := (List.perm_append_comm).append_right D
    simpa using this.nodup_iff.mp S.nu
  · intro j hj
    rw [h1]
    rcases List.mem_append.mp hj with h | h
    · split
      · rfl
      · exact S.out j h
    · rw [if_pos h]
  · intro j hj
    rw [h1, if_neg (fun h => (hdisj j h).2 hj)]; exact S.dn j hj
  · intro j hj h4 h5
    have hU : j ∉ U := fun h => h4 (List.mem_append.mpr (.inl h))
    have hR : j ∉ rdy := fun h => h4 (List.mem_append.mpr (.inr h))
    rw [h1, if_neg hR]; exact S.pend j hj hU h5
  · intro j
    simp only [List.not_mem_nil, false_iff]
    rintro ⟨a1, a2, a3, a4⟩
    exact a2 (List.mem_append.mpr (.inr ((S.rd j).mpr ⟨a1, fun h => a2 (List.mem_append.mpr (.inl h)), a3, a4⟩)))
  · intro j hj
    by_cases h : j ∈ rdy
    · exact ⟨((S.rd j).mp h).1, ((S.rd j).mp h).2.2.2⟩
    · exact S.cl j (by rcases hj with h' | h'; exact .inl ((List.mem_append.mp h').resolve_right h); exact .inr h')
  · rw [S.pq]; simp; lia
theorem rel_all : ∀ (ss : List Int) (P : Pd) (R : List Int), (∀ s ∈ ss, s ∈ ky P ∧ (ss.count s : Int) ≤ npAt P s) →
    (∀ j, npAt (ss.foldl relP (P, R)).1 j = npAt P j - ss.count j) ∧ (∀ a, suAt (ss.foldl relP (P, R)).1 a = suAt P a) ∧ ky (ss.foldl relP (P, R)).1 = ky P ∧
    ∃ new : List Int, (ss.foldl relP (P, R)).2 = R ++ new ∧ new.Nodup ∧ ∀ j, j ∈ new ↔ j ∈ ss ∧ npAt P j = ss.count j
  | [], P, R, _ => by simp
  | s :: ss, P, R, h => by
    have hs := h s List.mem_cons_self
    have hc : (List.count s (s :: ss) : Int) = ss.count s + 1 := by rw [List.count_cons_self]; lia
    have hnp : ∀ j, npAt (npP P s (-1)) j = npAt P j + if j = s then -1 else 0 := np_np hs.1 (-1)
    have hh : ∀ t ∈ ss, t ∈ ky (npP P s (-1)) ∧ (ss.count t : Int) ≤ npAt (npP P s (-1)) t := by
      intro t ht
      obtain ⟨a1, a2⟩ := h t (List.mem_cons_of_mem _ ht)
      rw [ky_np, hnp]
      refine ⟨a1, ?_⟩
      by_cases e : t = s
      · subst e; rw [List.count_cons_self] at a2; simp; lia
      · rw [List.count_cons_of_ne (Ne.symm e)] at a2; simp [e]; exact a2
    have hR : relP (P, R) s = (npP P s (-1), if npAt (npP P s (-1)) s = 0 then R ++ [s] else R) := rfl
    rw [List.foldl_cons, hR]
    obtain ⟨h1, h2, h3, new, h4, h5, h6⟩ := rel_all ss (npP P s (-1)) (if npAt (npP P s (-1)) s = 0 then R ++ [s] else R) hh
    refine ⟨fun j => ?_, fun a => by rw [h2, su_np], by rw [h3, ky_np], ?_⟩
    · rw [h1, hnp]
      by_cases e : j = s
      · subst e; rw [List.count_cons_self]; simp; lia
      · rw [List.count_cons_of_ne (Ne.symm e)]; simp [e]
    · rw [h4]
      by_cases hz : npAt (npP P s (-1)) s = 0
      · rw [if_pos hz]
        have hz' : npAt P s = 1 := by rw [hnp] at hz; simp at hz; lia
        have hns : s ∉ ss := by
          intro hm
          have := (hh s hm).2
          rw [hz] at this
          have := List.count_pos_iff.mpr hm
          lia
        refine ⟨s :: new, by simp, ?_, fun j => ?_⟩
        · rw [List.nodup_cons]; exact ⟨fun hm => hns ((h6 s).mp hm).1, h5⟩
        · rw [List.mem_cons, h6, List.mem_cons]
          by_cases e : j = s
          · subst e
            have : List.count j ss = 0 := List.count_eq_zero.mpr hns
            simp [hz', List.count_cons_self, this]
          · rw [hnp, List.count_cons_of_ne (Ne.symm e)]; simp [e]
      · rw [if_neg hz]
        refine ⟨new, rfl, h5, fun j => ?_⟩
        rw [h6, List.mem_cons]
        by_cases e : j = s
        · subst e
          rw [hnp, List.count_cons_self]
          rw [hnp] at hz
          simp at hz ⊢
          constructor
          · rintro ⟨_, h8⟩; lia
          · intro h8
            refine ⟨?_, by lia⟩
            have : 0 < ss.count j := by lia
            exact List.count_pos_iff.mp this
        · rw [hnp, List.count_cons_of_ne (Ne.symm e)]; simp [e]
end

section
variable {g : Int → List Int} {J : Int → Prop} {P : Pd} {rdy U D : List Int} {p q : Int}
theorem countP_cons_D {i : Int} {D : List Int} (hi : i ∉ D) : ∀ l : List Int, l.countP (fun a => decide (a ∉ D)) = l.countP (fun a => decide (a ∉ i :: D)) + l.count i
  | [] => rfl
  | x :: l => by
    have ih := countP_cons_D hi l
    rw [List.countP_cons, List.countP_cons, List.count_cons, ih]
    by_cases e : x = i
    · subst e; simp [hi]; lia
    · by_cases h : x ∈ D <;> simp [e, h]; lia
theorem SI.len (S : SI g J P rdy U D p q) : rdy.length ≤ (ky P).length := by
  have h : rdy.Nodup := by
    have := S.nu
    rw [List.append_assoc, List.nodup_append] at this
    exact this.1
  exact nodup_len h fun x hx => (S.keys x).mpr ((S.rd x).mp hx).1
theorem SI.lenD (S : SI g J P rdy U D p q) : D.length ≤ (ky P).length := by
  have h : D.Nodup := by
    have := S.nu
    rw [List.nodup_append] at this
    exact this.2.1
  exact nodup_len h fun x hx => (S.keys x).mpr (S.cl x (.inr hx)).1
theorem SI.done (S : SI g J P rdy U D p q) (hirr : ∀ j, J j → j ∉ g j) {i : Int} (hi : i ∈ U) :
    (i ∈ ky P ∧ npAt P i = -1 ∧ ∀ s ∈ suAt P i, s ∈ ky P) ∧ SI g J (doneP1 (P, rdy) i).1 (doneP1 (P, rdy) i).2 (U.erase i) (i :: D) p (q + 1) ∧ ky (doneP1 (P, rdy) i).1 = ky P := by
  have hJi := (S.cl i (.inl hi)).1
  have hki := (S.keys i).mpr hJi
  have hnu := S.nu
  rw [List.nodup_append] at hnu
  obtain ⟨n1, n2, n3⟩ := hnu
  have hiD : i ∉ D := fun h => n3 i (List.mem_append.mpr (.inr hi)) i h rfl
  rw [List.nodup_append] at n1
  obtain ⟨n1a, n1b, n1c⟩ := n1
  have hss : ∀ s, s ∈ suAt P i → s ∈ ky P ∧ i ∈ g s ∧ s ≠ i ∧ s ∉ U ∧ s ∉ D := by
    intro s hs
    have h1 := S.su i s
    have h2 := List.count_pos_iff.mpr hs
    rw [h1] at h2
    by_cases hk : s ∈ ky P
    · rw [if_pos hk] at h2
      have h3 := List.count_pos_iff.mp h2
      refine ⟨hk, h3, ?_, fun h => hiD ((S.cl s (.inl h)).2 i h3), fun h => hiD ((S.cl s (.inr h)).2 i h3)⟩
      rintro rfl; exact hirr _ hJi h3
    · rw [if_neg hk] at h2; lia
  have hcnt : ∀ s, s ∈ ky P → (suAt P i).count s = (g s).count i := fun s hs => by rw [S.su, if_pos hs]
  have hpre : ∀ s ∈ suAt P i, s ∈ ky (setP P i (-2)) ∧ ((suAt P i).count s : Int) ≤ npAt (setP P i (-2)) s := by
    intro s hs
    obtain ⟨h1, h2, h3, h4, h5⟩ := hss s hs
    rw [ky_set, np_set hki, if_neg h3, S.pend s ((S.keys s).mp h1) h4 h5, hcnt s h1]
    refine ⟨h1, ?_⟩
    have := countP_cons_D hiD (g s)
    lia
  obtain ⟨r1, r2, r3, new, r4, r5, r6⟩ := rel_all (suAt P i) (setP P i (-2)) rdy hpre
  have e : doneP1 (P, rdy) i = (suAt P i).foldl relP (setP P i (-2), rdy) := rfl
  rw [e]
  have hz : ∀ j, j ∉ suAt P i → (suAt P i).count j = 0 := fun j hj => List.count_eq_zero.mpr hj
  have hnew : ∀ j, j ∈ new → J j ∧ i ∈ g j ∧ j ≠ i ∧ j ∉ U ∧ j ∉ D ∧ ∀ a ∈ g j, a ∈ i :: D := by
    intro j hj
    obtain ⟨h1, h2⟩ := (r6 j).mp hj
    obtain ⟨k1, k2, k3, k4, k5⟩ := hss j h1
    have hJ := (S.keys j).mp k1
    refine ⟨hJ, k2, k3, k4, k5, ?_⟩
    rw [np_set hki, if_neg k3, S.pend j hJ k4 k5, hcnt j k1] at h2
    have h3 := countP_cons_D hiD (g j)
    have h4 : (g j).countP (fun a => decide (a ∉ i :: D)) = 0 := by lia
    intro a ha
    have := List.countP_eq_zero.mp h4 a ha
    exact Classical.byContradiction fun hn => this (decide_eq_true hn)
  refine ⟨⟨hki, S.out i hi, fun s hs => (hss s hs).1⟩, ⟨?_, ?_, ?_, ?_, ?_, ?_, ?_, ?_, ?_, ?_⟩, by rw [r3, ky_set]⟩
  · intro j; rw [r3, ky_set]; exact S.keys j
  · rw [r3, ky_set]; exact S.nd
  · intro a s; rw [r2, su_set, r3, ky_set]; exact S.su a s
  · rw [r4]
    have hp := List.perm_cons_erase hi
    have h1 : (new ++ (rdy ++ U ++ D)).Nodup := by
      rw [List.nodup_append]
      refine ⟨r5, S.nu, ?_⟩
      rintro x hx y hy rfl
      obtain ⟨k1, k2, k3, k4, k5, k6⟩ := hnew x hx
      rcases List.mem_append.mp hy with h | h
      · rcases List.mem_append.mp h with h | h
        · exact hiD (((S.rd x).mp h).2.2.2 i k2)
        · exact k4 h
      · exact k5 h
    refine List.Perm.nodup_iff (List.perm_iff_count.mpr fun a => ?_) |>.mp h1
    have := hp.count_eq a
    simp only [List.count_append, List.count_cons] at this ⊢
    lia
  · intro j hj
    have hjU := List.mem_of_mem_erase hj
    have hji : j ≠ i := by
      rintro rfl
      exact (List.Nodup.not_mem_erase n1b) hj
    rw [r1, np_set hki, if_neg hji, hz j (fun h => (hss j h).2.2.2.1 hjU), S.out j hjU]; rfl
  · intro j hj
    rcases List.mem_cons.mp hj with rfl | hj'
    · rw [r1, np_set hki, if_pos rfl, hz j (fun h => (hss j h).2.2.1 rfl)]; rfl
    · have hji : j ≠ i := by rintro rfl; exact hiD hj'
      rw [r1, np_set hki, if_neg hji, hz j (fun h => (hss j h).2.2.2.2 hj'), S.dn j hj']; rfl
  · intro j hJ h1 h2
    have hji : j ≠ i := by rintro rfl; exact h2 List.mem_cons_self
    have hjU : j ∉ U := fun h => h1 ((List.mem_erase_of_ne hji).mpr h)
    have hjD : j ∉ D := fun h => h2 (List.mem_cons_of_mem _ h)
    rw [r1, np_set hki, if_neg hji, S.pend j hJ hjU hjD, hcnt j ((S.keys j).mpr hJ)]
    have := countP_cons_D hiD (g j)
    lia
  · intro j
    rw [r4, List.mem_append]
    constructor
    · rintro (h | h)
      · obtain ⟨k1, k2, k3, k4⟩ := (S.rd j).mp h
        refine ⟨k1, fun h' => k2 (List.mem_of_mem_erase h'), ?_, fun a ha => List.mem_cons_of_mem _ (k4 a ha)⟩
        intro h'
        rcases List.mem_cons.mp h' with rfl | h'
        · exact k2 hi
        · exact k3 h'
      · obtain ⟨k1, k2, k3, k4, k5, k6⟩ := hnew j h
        refine ⟨k1, fun h' => k4 (List.mem_of_mem_erase h'), ?_, k6⟩
        intro h'
        rcases List.mem_cons.mp h' with rfl | h'
        · exact k3 rfl
        · exact k5 h'
    · rintro ⟨k1, k2, k3, k4⟩
      have hji : j ≠ i := by rintro rfl; exact k3 List.mem_cons_self
      have hjU : j ∉ U := fun h => k2 ((List.mem_erase_of_ne hji).mpr h)
      have hjD : j ∉ D := fun h => k3 (List.mem_cons_of_mem _ h)
      by_cases hig : i ∈ g j
      · right
        have hkj := (S.keys j).mpr k1
        refine (r6 j).mpr ⟨?_, ?_⟩
        · have := List.count_pos_iff.mpr hig
          rw [← hcnt j hkj] at this
          exact List.count_pos_iff.mp this
        · rw [np_set hki, if_neg hji, S.pend j k1 hjU hjD, hcnt j hkj]
          have h3 := countP_cons_D hiD (g j)
          have h4 : (g j).countP (fun a => decide (a ∉ i :: D)) = 0 := List.countP_eq_zero.mpr fun a ha hc => (of_decide_eq_true hc) (k4 a ha)
          lia
      · left
        refine (S.rd j).mpr ⟨k1, hjU, hjD, fun a ha => ?_⟩
        rcases List.mem_cons.mp (k4 a ha) with rfl | h
        · exact absurd ha hig
        · exact h
  · intro j hj
    have : j ∈ U ∨ j ∈ D := by
      rcases hj with h | h
      · exact .inl (List.mem_of_mem_erase h)
      · rcases List.mem_cons.mp h with rfl | h
        · exact .inl hi
        · exact .inr h
    exact ⟨(S.cl j this).1, fun a ha => List.mem_cons_of_mem _ ((S.cl j this).2 a ha)⟩
  · rw [S.pq, List.length_erase_of_mem hi]
    have := List.length_pos_of_mem hi
    lia
theorem SI.dones (hirr : ∀ j, J j → j ∉ g j) : ∀ (is : List Int) {U U' D : List Int} {P : Pd} {rdy : List Int} {p q : Int}, SI g J P rdy U D p q → U.Perm (is ++ U') →
    doneOk (P, rdy) is ∧ (∀ js, js <+: is → (js.foldl doneP1 (P, rdy)).2.length ≤ (ky P).length) ∧ SI g J (is.foldl doneP1 (P, rdy)).1 (is.foldl doneP1 (P, rdy)).2 U' (is.reverse ++ D) p (q + is.length)
  | [], U, U', D, P, rdy, p, q, S, hU => by
    refine ⟨trivial, fun js hj => ?_, by simpa using S.perm hU (.refl _)⟩
    rw [List.prefix_nil.mp hj]; exact S.len
  | i :: is, U, U', D, P, rdy, p, q, S, hU => by
    have hi : i ∈ U := hU.mem_iff.mpr List.mem_cons_self
    obtain ⟨h1, h2, h3⟩ := S.done hirr hi
    have hU2 : (U.erase i).Perm (is ++ U') := by
      have := hU.erase i
      rwa [List.cons_append, List.erase_cons_head] at this
    obtain ⟨k1, k2, k3⟩ := SI.dones hirr is h2 hU2
    refine ⟨⟨h1.1, h1.2.1, h1.2.2, k1⟩, fun js hj => ?_, ?_⟩
    · rcases List.prefix_cons_iff.mp hj with rfl | ⟨js', rfl, hj'⟩
      · exact S.len
      · rw [← h3]; exact k2 js' hj'
    · have : ((i :: is).reverse ++ D) = is.reverse ++ (i :: D) := by simp
      rw [this]
      have e : q + ((i :: is).length : Int) = q + 1 + is.length := by simp; lia
      rw [e]; exact k3
theorem np_mem : ∀ {P : Pd}, (ky P).Nodup → ∀ y ∈ P, npAt P y.1 = y.2.1
  | z :: P, h, y, hy => by
    obtain ⟨h1, h2⟩ := List.nodup_cons.mp (show (z.1 :: ky P).Nodup from h)
    rw [npAt_fd, fdP, List.find?_cons]
    rcases List.mem_cons.mp hy with rfl | hy
    · simp
    · have : z.1 ≠ y.1 := by intro e; exact h1 (e ▸ List.mem_map.mpr ⟨y, hy, rfl⟩)
      simp only [this, decide_false]
      exact np_mem h2 y hy
theorem SI.init (hk : ∀ j, j ∈ ky P ↔ J j) (hn : (ky P).Nodup) (hnp : ∀ j, J j → npAt P j = (g j).length) (hsu : ∀ a s, (suAt P a).count s = if s ∈ ky P then (g s).count a else 0) : SI g J P (rdy0 P) [] [] 0 0 := by
  refine ⟨hk, hn, hsu, ?_, by simp, by simp, ?_, ?_, by simp, by simp⟩
  · simp only [List.append_nil]
    exact (List.Sublist.map _ List.filter_sublist).nodup hn
  · intro j hj _ _; rw [hnp j hj]; simp
  · intro j
    simp only [rdy0, List.mem_map, List.mem_filter, decide_eq_true_eq, List.not_mem_nil, not_false_eq_true, true_and]
    constructor
    · rintro ⟨y, ⟨hy, h0⟩, rfl⟩
      have hJ := (hk y.1).mp (List.mem_map.mpr ⟨y, hy, rfl⟩)
      refine ⟨hJ, fun a ha => ?_⟩
      have h1 := hnp _ hJ
      rw [np_mem hn y hy, h0] at h1
      have : (g y.1).length = 0 := by lia
      rw [List.length_eq_zero_iff.mp this] at ha; cases ha
    · rintro ⟨hJ, h⟩
      obtain ⟨y, hy, rfl⟩ := List.mem_map.mp ((hk j).mpr hJ)
      refine ⟨y, ⟨hy, ?_⟩, rfl⟩
      rw [← np_mem hn y hy, hnp _ hJ]
      cases e : g y.1 with
      | nil => rfl
      | cons a l => exact (h a (by rw [e]; exact List.mem_cons_self)).elim
inductive Ld (g : Int → List Int) : Int → Int → Prop
  | base {a b : Int} : a ∈ g b → Ld g a b
  | step {a m b : Int} : Ld g a m → m ∈ g b → Ld g a b
end

noncomputable def CompD (C : Cx) (A : Around) (scope : Scope) (outer : List (Str × NameKind)) (x : Str) (ke ve : Expr) (L1 : Loc) (H1 : AH) (xv : Value) (K : Addr → AH → Prop) : Prop :=
  ∃ xs D, D H1 ∧ IterP C A xv xs D ∧ (∀ H', Ge H1 H' → D H') ∧ ∀ a, H1 a = none → ∃ J : List Value → List (Int × Value) → AH → Prop, J xs [] H1 ∧ (∀ us ys H H', Ga a H H' → J us ys H → J us ys H') ∧ (∀ us es H, J us es H → es.length ≤ 1000) ∧
    (∀ f' u us es ep L2 H2, FrameC f' (relN scope.names outer) → Ge H1 H2 → (∀ y, scope.names.lookup y = some .free → L2 y = L1 y) → L2 x = some u → H2 a = some (.dict es ep) → J (u :: us) es H2 →
      EW C A nx f' ke L2 H2 fun kv L3 H3 => EW C A nx f' ve L3 H3 fun vv L4 H4 => L4 = L2 ∧ Ge H2 H4 ∧ ∃ i, kv = .int i 0 ∧ J us (stored es i vv) H4) ∧
    ∀ es ep H', Ge H1 H' → H' a = some (.dict es ep) → J [] es H' → K a H'
section
variable {C : Cx} {A : Around} {E : Value → Shared → Prop} {H H0 : AH} {a d0 d r : Addr} {f : Fm} {L : Loc}
end
noncomputable def bdy (p : Params) (a : Addr) : List Stmt := match (hd07.heap_1 p).lookup a with
  | some ⟨_, _, .func fd, _⟩ => (match fd.body with | .stmts b => b | _ => [])
  | _ => []
noncomputable def nms (p : Params) (a : Addr) : List (Str × NameKind) := match (hd07.heap_1 p).lookup a with
  | some ⟨_, _, .func fd, _⟩ => fd.scope.names
  | _ => []
noncomputable def jl (n : Nat) : List Int := (List.range n).map Int.ofNat
theorem mem_jl {n : Nat} {j : Int} : j ∈ jl n ↔ 0 ≤ j ∧ j < n := by
  unfold jl
  simp only [List.mem_map, List.mem_range]
  constructor
  · rintro ⟨m, hm, rfl⟩; exact ⟨Int.natCast_nonneg m, Int.ofNat_lt.mpr hm⟩
  · rintro ⟨h1, h2⟩
    refine ⟨j.toNat, by lia, ?_⟩
    show ((j.toNat : Nat) : Int) = j
    lia
theorem nd_jl (n : Nat) : (jl n).Nodup := by
  unfold jl
  refine List.Pairwise.map _ ?_ (List.nodup_range)
  intro a b h e
  exact h (Int.ofNat.inj e)
theorem len_jl (n : Nat) : (jl n).length = n := by simp [jl]
theorem range_up (n : Nat) : rangeItems 0 n 1 = ivs (jl n) := by
  have : Builtin.Range.rangeSize 0 n 1 = n := by
    unfold Builtin.Range.rangeSize
    simp <;> lia
  unfold rangeItems ivs jl
  rw [this]
  simp
theorem range_dn (n : Nat) : rangeItems ((n : Int) - 1) (-1) (-1) = ivs (jl n).reverse := by
  have : Builtin.Range.rangeSize ((n : Int) - 1) (-1) (-1) = n := by
    unfold Builtin.Range.rangeSize
    simp <;> lia
  unfold rangeItems ivs jl
  rw [this]
  apply List.ext_getElem
  · simp
  · intro i h1 h2
    simp only [List.length_map, List.length_range, Int.toNat_natCast] at h1
    simp
    lia
theorem foldA_len : ∀ (G : List (Int × List Int)) (P : Pd), (foldA G P).length ≤ P.length + szA G
  | [], P => by simp [foldA, szA]
  | x :: G, P => by
    have h1 := foldA_len G (addP P x.1 x.2)
    have h2 := addP_len P x.1 x.2
    have h3 : szA (x :: G) = x.2.length + 1 + szA G := by simp [szA]
    show (foldA G (addP P x.1 x.2)).length ≤ _
    lia
theorem foldA_bd : ∀ (G : List (Int × List Int)) {P : Pd} {K : Nat}, Bd P K → Bd (foldA G P) (K + szA G)
  | [], P, K, h => by simpa [foldA, szA] using h
  | x :: G, P, K, h => by
    have h1 := foldA_bd G (h.add x.1 x.2)
    have h3 : szA (x :: G) = x.2.length + 1 + szA G := by simp [szA]
    intro y hy
    have := h1 y hy
    lia
theorem szA_le (h : Int → List Int) (m : Nat) : ∀ {ks : List Int}, (∀ k ∈ ks, (h k).length ≤ m) → szA (ks.map fun k => (k, h k)) ≤ ks.length * (m + 1)
  | [], _ => by simp [szA]
  | k :: ks, hh => by
    have h1 := szA_le h m (ks := ks) (fun x hx => hh x (List.mem_cons_of_mem _ hx))
    have h2 := hh k List.mem_cons_self
    have h3 : szA ((k :: ks).map fun k => (k, h k)) = (h k).length + 1 + szA (ks.map fun k => (k, h k)) := by simp [szA]
    rw [h3, List.length_cons, Nat.add_mul]
    lia
section
variable {C : Cx} {A : Around} {E : Value → Shared → Prop} {H H0 : AH} {a d0 d r : Addr} {f : Fm} {L : Loc}
set_option genInjectivity false in
structure GrOk (H : AH) (gd : Addr) (ep : Nat) (la : Int → Addr) (g : Int → List Int) (n : Nat) : Prop where
  dict : H gd = some (.dict ((jl n).map fun j => (j, .ref (la j))) ep)
  list : ∀ j ∈ jl n, H (la j) = some (.list (ivs (g j)))
  n5 : n ≤ 5
  n0 : 0 < n
  len : ∀ j ∈ jl n, (g j).length ≤ 8
  lt : ∀ j ∈ jl n, ∀ a ∈ g j, 0 ≤ a ∧ a < j
noncomputable def gI (g : Int → List Int) (j : Int) : List Int := (g j).take ((g j).length - 1)
noncomputable def gL (g : Int → List Int) (j : Int) : List Int := (g j).drop ((g j).length - 1)
noncomputable def G2 (g : Int → List Int) (n : Nat) : Pd := foldA ((jl n).map fun j => (j, gL g j)) (foldA ((jl n).reverse.map fun j => (j, gI g j)) [])
end

noncomputable def Fx (F : Addr → Prop) (H H' : AH) : Prop := ∀ b o, H b = some o → ¬ F b → H' b = some o
theorem Fx.refl {F : Addr → Prop} {H : AH} : Fx F H H := fun _ _ h _ => h
theorem Fx.trans {F : Addr → Prop} {H H' H'' : AH} (x : Fx F H H') (y : Fx F H' H'') : Fx F H H'' := fun b o h n => y b o (x b o h n) n
theorem Fx.of_ge {F : Addr → Prop} {H H' : AH} (x : Ge H H') : Fx F H H' := fun b o h _ => x b o h
set_option genInjectivity false in
structure Wt (g : Int → List Int) (n : Nat) (F : Addr → Prop) (a d0 d : Addr) (ep : Nat) (r w : Addr) (H : AH) (rdy U ws D : List Int) : Prop where
  ex : Ex3 fun N p q => An5 (Opn H a d0 d ep r N rdy p q) (SI g (· ∈ jl n) (N.map pv) rdy U D p q) (∀ b, F b ↔ FootR a d r N b ∨ b = w) (¬ FootR a d r N w) (Bd (N.map pv) 1000)
  hw : H w = some (.list (ivs ws))
section
variable {C : Cx} {A : Around} {E : Value → Shared → Prop} {H H' : AH} {a d0 d r w : Addr} {ep n : Nat} {g : Int → List Int} {F : Addr → Prop} {rdy U ws D : List Int}
theorem Bd.out {k : Nat} : ∀ {is : List Int} {P : Pd}, Bd P k → Bd (outP P is) k
  | [], P, h => h
  | i :: is, P, h => Bd.out (is := is) (h.set i (-1))
theorem Bd.dones {k : Nat} : ∀ {is : List Int} {st : Pd × List Int}, Bd st.1 k → Bd (is.foldl doneP1 st).1 k
  | [], st, h => h
  | i :: is, st, h => Bd.dones (is := is) (st := doneP1 st i) (Bd.rel (st := (setP st.1 i (-2), st.2)) (h.set i (-2)))
end

noncomputable def sm {α : Type} (l : List α) (f : α → Int) : Int := (l.map f).sum
section
variable {α β : Type}
end
noncomputable def isMin (R : Int → Int → Bool) (S : List Int) (x : Int) : Bool := S.all fun y => !R y x
noncomputable def ext (R : Int → Int → Bool) : Nat → List Int → Int
  | 0, _ => 1
  | k + 1, S => sm (S.filter (isMin R S)) fun x => ext R k (S.erase x)
set_option genInjectivity false in
structure Ord (R : Int → Int → Bool) : Prop where
  tr : ∀ x y z, R x y = true → R y z = true → R x z = true
  ir : ∀ x, R x x = false
set_option genInjectivity false in
structure MC (R : Int → Int → Bool) (S C : List Int) : Prop where
  nd : C.Nodup
  sub : ∀ x ∈ C, x ∈ S
  ch : ∀ x ∈ C, ∀ y ∈ C, x ≠ y → R x y = true ∨ R y x = true
  mx : ∀ x ∈ S, x ∉ C → ∃ c ∈ C, R x c = false ∧ R c x = false
section
variable {R : Int → Int → Bool} {S C : List Int}
noncomputable def vm (R : Int → Int → Bool) (S : List Int) (w : Int → Int) (m x : Int) : Int := w x + if (isMin R (S.erase m) x && !isMin R S x) then w m else 0
end

noncomputable def pw (b : Int → Int → Bool) : Nat → Int → Int → Bool
  | 0 => b
  | m + 1 => fun x y => pw b m x y || (pw b m x m && pw b m m y)
theorem pw_up {b : Int → Int → Bool} {m : Nat} {x y : Int} (h : pw b m x y = true) : pw b (m + 1) x y = true := by
  show (pw b m x y || _) = true
  rw [h]; rfl
theorem pw_cases {b : Int → Int → Bool} {m : Nat} {x y : Int} (h : pw b (m + 1) x y = true) : pw b m x y = true ∨ pw b m x m = true ∧ pw b m m y = true := by
  have h : (pw b m x y || (pw b m x m && pw b m m y)) = true := h
  rw [Bool.or_eq_true, Bool.and_eq_true] at h; exact h
theorem pw_via {b : Int → Int → Bool} {m : Nat} {x y : Int} (h1 : pw b m x m = true) (h2 : pw b m m y = true) : pw b (m + 1) x y = true := by
  show (pw b m x y || (pw b m x m && pw b m m y)) = true
  rw [h1, h2]; simp
theorem pw_tr {b : Int → Int → Bool} : ∀ {m k : Nat} {x y : Int}, k < m → pw b m x k = true → pw b m k y = true → pw b m x y = true
  | 0, _, _, _, h, _, _ => by lia
  | m + 1, k, x, y, hk, h1, h2 => by
    by_cases e : k = m
    · subst e
      have a1 : pw b k x k = true := (pw_cases h1).elim id (·.1)
      have a2 : pw b k k y = true := (pw_cases h2).elim id (·.2)
      exact pw_via a1 a2
    · have hk : k < m := by lia
      rcases pw_cases h1 with h1 | h1 <;> rcases pw_cases h2 with h2 | h2
      · exact pw_up (pw_tr hk h1 h2)
      · exact pw_via (pw_tr hk h1 h2.1) h2.2
      · exact pw_via h1.1 (pw_tr hk h1.2 h2)
      · exact pw_via h1.1 h2.2
noncomputable def bs (g : Int → List Int) (n : Nat) (x y : Int) : Bool := decide (y ∈ jl n ∧ x ∈ g y)
noncomputable def lds (g : Int → List Int) (n : Nat) (x y : Int) : Bool := pw (bs g n) n x y
section
variable {g : Int → List Int} {n : Nat}
theorem Ld.tr {x y z : Int} (a : Ld g x y) (b : Ld g y z) : Ld g x z := by
  induction b with
  | base h => exact .step a h
  | step _ h ih => exact .step ih h
theorem pw_lt (hlt : ∀ j ∈ jl n, ∀ a ∈ g j, 0 ≤ a ∧ a < j) : ∀ {m : Nat} {x y : Int}, pw (bs g n) m x y = true → y ∈ jl n ∧ 0 ≤ x ∧ x < y ∧ Ld g x y
  | 0, x, y, h => by
    have h : decide (y ∈ jl n ∧ x ∈ g y) = true := h
    rw [decide_eq_true_eq] at h
    have := hlt y h.1 x h.2
    exact ⟨h.1, this.1, this.2, .base h.2⟩
  | m + 1, x, y, h => by
    rcases pw_cases h with h | ⟨h1, h2⟩
    · exact pw_lt hlt h
    · obtain ⟨_, a1, a2, a3⟩ := pw_lt hlt h1
      obtain ⟨b0, b1, b2, b3⟩ := pw_lt hlt h2
      refine ⟨b0, a1, by lia, ?_⟩
      exact Ld.tr a3 b3
theorem lds_ord (hlt : ∀ j ∈ jl n, ∀ a ∈ g j, 0 ≤ a ∧ a < j) : Ord (lds g n) := by
  refine ⟨fun x y z h1 h2 => ?_, fun x => ?_⟩
  · obtain ⟨a0, a1, a2, _⟩ := pw_lt hlt h1
    have := mem_jl.mp a0
    obtain ⟨k, rfl⟩ : ∃ k : Nat, y = k := ⟨y.toNat, by lia⟩
    exact pw_tr (by lia) h1 h2
  · cases h : lds g n x x with
    | false => rfl
    | true => have := (pw_lt hlt h).2.2.1; lia
theorem pw_base : ∀ {m : Nat} {x y : Int}, bs g n x y = true → pw (bs g n) m x y = true
  | 0, _, _, h => h
  | m + 1, _, _, h => pw_up (pw_base h)
theorem lds_Ld (hlt : ∀ j ∈ jl n, ∀ a ∈ g j, 0 ≤ a ∧ a < j) {x y : Int} (hy : y ∈ jl n) : lds g n x y = true ↔ Ld g x y := by
  refine ⟨fun h => (pw_lt hlt h).2.2.2, fun h => ?_⟩
  induction h with
  | @base b h => exact pw_base (decide_eq_true ⟨hy, h⟩)
  | @step m b _ h ih =>
    have h1 := hlt b hy m h
    have h2 := mem_jl.mp hy
    exact (lds_ord hlt).tr _ _ _ (ih (mem_jl.mpr ⟨h1.1, by lia⟩)) (pw_base (decide_eq_true ⟨hy, h⟩))
end
noncomputable def rst (K row : List Int) : List Int := K.filter fun x => decide (x ∉ row)
inductive Feas (R : Int → Int → Bool) (K : List Int) : List Int → Prop
  | nil : Feas R K []
  | snoc {row : List Int} {j : Int} : Feas R K row → j ∈ K → j ∉ row → (∀ a ∈ K, R a j = true → a ∈ row) → Feas R K (row ++ [j])
noncomputable def WaitsFor (R : Int → Int → Bool) (K row ws : List Int) : Prop := ws.Nodup ∧ ∀ j, j ∈ ws ↔ j ∈ K ∧ j ∉ row ∧ ∀ a ∈ K, R a j = true → a ∈ row
section
variable {R : Int → Int → Bool} {K row ws : List Int}
end

section
variable {C : Cx} {A : Around} {E : Value → Shared → Prop} {H H0 : AH} {a d0 d r w : Addr} {ep n : Nat} {g : Int → List Int} {F : Addr → Prop} {rdy U ws D : List Int}
theorem small_up {n : Nat} (h : n ≤ 5000) : Builtin.Range.small 0 n 1 = true := small_one (by lia) (by lia) (by lia) (by lia)
theorem m_prepare (X : Ctx C) {rd : Value} {p q : Int} {Q : Value → List Value → AH → Prop} (hI : H a = some (.inst 137 d0 (flds d rd p q) [])) (h : Q (.ref 92) [.ref a] H) : MethP C A E (.ref a) "prepare" H Q :=
  MethP.inst (fa := 92) (y := none) (cls137 X) hI rfl (X.O.kin _ _ (X.look rfl)) rfl (by walk_at "tl") rfl h
theorem m_ready (X : Ctx C) {rd : Value} {p q : Int} {Q : Value → List Value → AH → Prop} (hI : H a = some (.inst 137 d0 (flds d rd p q) [])) (h : Q (.ref 99) [.ref a] H) : MethP C A E (.ref a) "get_ready" H Q :=
  MethP.inst (fa := 99) (y := none) (cls137 X) hI rfl (X.O.kin _ _ (X.look rfl)) rfl (by walk_at "tl") rfl h
theorem m_active (X : Ctx C) {rd : Value} {p q : Int} {Q : Value → List Value → AH → Prop} (hI : H a = some (.inst 137 d0 (flds d rd p q) [])) (h : Q (.ref 106) [.ref a] H) : MethP C A E (.ref a) "is_active" H Q :=
  MethP.inst (fa := 106) (y := none) (cls137 X) hI rfl (X.O.kin _ _ (X.look rfl)) rfl (by walk_at "tl") rfl h
theorem m_done (X : Ctx C) {rd : Value} {p q : Int} {Q : Value → List Value → AH → Prop} (hI : H a = some (.inst 137 d0 (flds d rd p q) [])) (h : Q (.ref 120) [.ref a] H) : MethP C A E (.ref a) "done" H Q :=
  MethP.inst (fa := 120) (y := none) (cls137 X) hI rfl (X.O.kin _ _ (X.look rfl)) rfl (by walk_at "tl") rfl h
theorem bm_done (X : Ctx C) {rd : Value} {p q : Int} {Q : Value → AH → Prop} (hI : H a = some (.inst 137 d0 (flds d rd p q) [])) (h : ∀ m, H m = none → Q (.ref m) (upd H m (.obj (methodObj (.ref 120) (.ref a))))) : P1 C A E (fun o => getAttr o "done" true) (.ref a) H Q :=
  P1.meth (fa := 120) X.O hI (by walk_at "kk") (by walk_at "kk") (fun od ho => (findObj_none ho).trans (by walk_at "kk")) (by walk_at "kk") rfl h
theorem bm_add (X : Ctx C) {rd : Value} {p q : Int} {Q : Value → AH → Prop} (hI : H a = some (.inst 137 d0 (flds d rd p q) [])) (h : ∀ m, H m = none → Q (.ref m) (upd H m (.obj (methodObj (.ref 87) (.ref a))))) : P1 C A E (fun o => getAttr o "add" true) (.ref a) H Q :=
  P1.meth (fa := 87) X.O hI (by walk_at "kk") (by walk_at "kk") (fun od ho => (findObj_none ho).trans (by walk_at "kk")) (by walk_at "kk") rfl h
theorem k92 (X : Ctx C) : KeepOk C (.ref 92) H := KeepOk.known X.O (by walk_at "kk") ⟨_, rfl⟩
theorem k99 (X : Ctx C) : KeepOk C (.ref 99) H := KeepOk.known X.O (by walk_at "kk") ⟨_, rfl⟩
theorem k106 (X : Ctx C) : KeepOk C (.ref 106) H := KeepOk.known X.O (by walk_at "kk") ⟨_, rfl⟩
theorem k120 (X : Ctx C) : KeepOk C (.ref 120) H := KeepOk.known X.O (by walk_at "kk") ⟨_, rfl⟩
theorem k137 (X : Ctx C) : KeepOk C (.ref 137) H := KeepOk.known X.O (by walk_at "kk") ⟨_, rfl⟩
theorem fn120 (X : Ctx C) : fnIn C.K 120 = true := by walk_at "kk"
theorem fn87 (X : Ctx C) : fnIn C.K 87 = true := by walk_at "kk"
end

noncomputable def up (p c : Nat) : List Int := (List.range' p c).map Int.ofNat
theorem jl_up (n : Nat) : jl n = up 0 n := by unfold jl up; rw [List.range_eq_range']
theorem up_cons (p c : Nat) : up p (c + 1) = (p : Int) :: up (p + 1) c := rfl
section
variable {C : Cx} {A : Around} {E : Value → Shared → Prop} {H H0 : AH} {a d0 d r : Addr} {ep0 n : Nat} {g : Int → List Int} {la : Int → Addr} {kept row : List Int} {gd kd rw' : Addr}
theorem swaps_comp {f : Fm} {names : List (Str × NameKind)} (F : FrameC f names) {elt : Expr} {gens : List Comprehension} {scope : Scope} {p tp : Pos} {t : Str} {line : Nat} {b : Bool}
    (h : (names.lookup t == some .local && tp.line == p.line && !(scope.names.any fun (n, k) => n == t && (k == .local || k == .cell))) = b) : swapsWith (.ListComp elt gens scope p) (some (.Name t tp)) line f.env = pure b := by
  unfold swapsWith
  have hb : f.env.blockKind = .function := by
    unfold Env.blockKind; rw [F.kind]; rfl
  simp only [hb, F.kinds, pure_bind]
  rw [← h]
  rfl
theorem seqQ.brk {f : Fm} {L : Loc} {rest : List Stmt} {Q : Flow → Loc → AH → Prop} (h : Q .brk L H) : seqQ C A E f rest Q .brk L H := h
theorem turnQ.brk {D : AH → Prop} {Q : Flow → Loc → AH → Prop} {go : Loc → AH → Prop} {L : Loc} (h : Q .next L H) : turnQ D Q go .brk L H := h
theorem ivs_len (a : List Int) : (ivs a).length = a.length := by simp [ivs]
theorem ivs_nil (a : List Int) : (ivs a).isEmpty = a.isEmpty := by cases a <;> rfl
theorem up_eq {x : Value} {xs : List Value} {p c : Nat} (e : x :: xs = ivs (up p (c + 1))) : x = .int p 0 ∧ xs = ivs (up (p + 1) c) := by
  rw [up_cons] at e
  exact List.cons.inj e
theorem part_perm (c : Int → Bool) : ∀ l : List Int, (l.filter (fun x => !c x) ++ l.filter c).Perm l
  | [] => .nil
  | x :: l => by
    have ih := part_perm c l
    cases e : c x with
    | true =>
      rw [List.filter_cons_of_neg (by simp [e]), List.filter_cons_of_pos e]
      exact List.perm_middle.trans (ih.cons x)
    | false =>
      rw [List.filter_cons_of_pos (by simp [e]), List.filter_cons_of_neg (by simp [e])]
      exact ih.cons x
end

section
variable {C : Cx} {A : Around} {E : Value → Shared → Prop} {H H0 : AH} {a d0 d r : Addr} {f : Fm} {L : Loc}
theorem ifsNil {P Q : Loc → AH → Prop} (h : P L H) : IfsW C A f [] L H fun ok L H => if ok then P L H else Q L H := h
theorem CompJ.vals {α : Type} {scope : Scope} {outer : List (Str × NameKind)} {x : Str} {elt : Expr} {ifs : List Expr} {L1 : Loc} {H1 : AH} {xv : Value} {K : Addr → AH → Prop} (items : List α) (val : α → Value) (c : α → Bool) (out : α → Value) (D : AH → Prop)
    (d1 : D H1) (ip : IterP C A xv (items.map val) D) (hlen : items.length ≤ 1000) (hD : ∀ H', Ge H1 H' → D H')
    (step : ∀ f' u L2 H2, u ∈ items → FrameC f' (relN scope.names outer) → Ge H1 H2 → (∀ y, scope.names.lookup y = some .free → L2 y = L1 y) → L2 x = some (val u) →
      IfsW C A f' ifs L2 H2 fun ok L3 H3 => if ok then EW C A nx f' elt L3 H3 (fun v L4 H4 => An4 (L4 = L2) (Ge H2 H4) (c u = true) (v = out u)) else An3 (L3 = L2) (Ge H2 H3) (c u = false))
    (fin : ∀ a H', H1 a = none → Ge H1 H' → H' a = some (.list ((items.filter c).map out)) → K a H') : CompJ C A scope outer x elt ifs L1 H1 xv K := by
  refine ⟨items.map val, D, d1, ip, by simpa using hlen, hD, fun a ha => ⟨fun us ys _ => ∃ vs : List α, us = vs.map val ∧ ys ++ (vs.filter c).map out = (items.filter c).map out ∧ ∀ u ∈ vs, u ∈ items, ⟨items, rfl, by simp, fun _ h => h⟩, fun _ _ _ _ _ h => h, ?_, ?_⟩⟩
  · intro f' u us ys L2 H2 FC g hl hu _ q
    refine hideG fun G hG => ?_
    obtain ⟨vs, e, j1, j2⟩ := q
    obtain ⟨z, vs', rfl, hz, hvs⟩ := List.map_eq_cons_iff.mp e.symm
    refine hG (IfsW.mono (step f' z L2 H2 (j2 z List.mem_cons_self) FC g hl (hu.trans (congrArg some hz.symm))) fun ok L3 H3 q => ?_)
    cases ok with
    | false =>
      obtain ⟨e3, g3, hc⟩ := q
      refine ite_f ⟨e3, g3, vs', hvs.symm, ?_, fun u hu => j2 u (List.mem_cons_of_mem _ hu)⟩
      rw [← j1, List.filter_cons_of_neg (by rw [hc]; exact Bool.false_ne_true)]
    | true =>
      refine ite_t (TW.mono q fun v L4 H4 q4 => ?_)
      obtain ⟨e4, g4, hc, hv⟩ := q4
      refine ⟨e4, g4, vs', hvs.symm, ?_, fun u hu => j2 u (List.mem_cons_of_mem _ hu)⟩
      rw [← j1, List.filter_cons_of_pos hc, hv, List.append_assoc]; rfl
  · rintro ys H' g ha' ⟨vs, e, j1, _⟩
    cases vs with
    | cons _ _ => cases e
    | nil =>
      refine fin a H' ha g ?_
      rw [ha', ← j1]; simp
theorem CompJ.objs {α β : Type} (mk : β → AO) {scope : Scope} {outer : List (Str × NameKind)} {x : Str} {elt : Expr} {L1 : Loc} {H1 : AH} {xv : Value} {K : Addr → AH → Prop} (items : List α) (val : α → Value) (out : α → β) (D : AH → Prop)
    (d1 : D H1) (ip : IterP C A xv (items.map val) D) (hlen : items.length ≤ 1000) (hD : ∀ H', Ge H1 H' → D H')
    (step : ∀ f' u L2 H2, u ∈ items → FrameC f' (relN scope.names outer) → Ge H1 H2 → (∀ y, scope.names.lookup y = some .free → L2 y = L1 y) → L2 x = some (val u) →
      EW C A nx f' elt L2 H2 (fun v L4 H4 => An3 (L4 = L2) (Ge H2 H4) (∃ r, An3 (v = .ref r) (H2 r = none) (H4 r = some (mk (out u))))))
    (fin : ∀ a H' (ps : List (Addr × β)), H1 a = none → Ge H1 H' → H' a = some (.list (ps.map fun p => .ref p.1)) → (∀ p ∈ ps, H1 p.1 = none ∧ p.1 ≠ a ∧ H' p.1 = some (mk p.2)) → ps.map (·.2) = items.map out → (ps.map (·.1)).Nodup → K a H') : CompJ C A scope outer x elt [] L1 H1 xv K := by
  refine ⟨items.map val, D, d1, ip, by simpa using hlen, hD, fun a ha => ⟨fun us ys H' => Ex2 fun (vs : List α) (ps : List (Addr × β)) => An6 (us = vs.map val) (ys = (ps.map fun p => .ref p.1)) (∀ p ∈ ps, H1 p.1 = none ∧ p.1 ≠ a ∧ H' p.1 = some (mk p.2)) (ps.map (·.1)).Nodup (ps.map (·.2) ++ vs.map out = items.map out) (∀ u ∈ vs, u ∈ items), ⟨items, [], rfl, rfl, (fun _ h => (nomatch h)), .nil, rfl, fun _ h => h⟩, ?_, ?_, ?_⟩⟩
  · rintro us ys H2 H3 ga ⟨vs, ps, e1, e2, e3, e4, e5, e6⟩
    exact ⟨vs, ps, e1, e2, fun p hp => ⟨(e3 p hp).1, (e3 p hp).2.1, ga _ _ (e3 p hp).2.1 (e3 p hp).2.2⟩, e4, e5, e6⟩
  · intro f' u us ys L2 H2 FC g hl hu ha2 q
    refine ifsNil (hideG fun G hG => ?_)
    obtain ⟨vs, ps, e, e0, e3, nd, j1, j2⟩ := q
    obtain ⟨z, vs', rfl, hz, hvs⟩ := List.map_eq_cons_iff.mp e.symm
    refine hG (TW.mono (step f' z L2 H2 (j2 z List.mem_cons_self) FC g hl (hu.trans (congrArg some hz.symm))) fun v L4 H4 q4 => hideG fun G hG => ?_)
    obtain ⟨e4, g4, r, hv, hr, hr4⟩ := q4
    have hr1 : H1 r = none := by
      cases e : H1 r with
      | none => rfl
      | some o => rw [g _ _ e] at hr; cases hr
    have hra : r ≠ a := by first | exact no_some (hr) (ha2) | exact no_some (ha2) (hr) | exact (no_some (hr) (ha2)).symm | exact (no_some (ha2) (hr)).symm | exact two_ne (hr) (ha2) (by intro q; cases q; done) | exact (two_ne (hr) (ha2) (by intro q; cases q; done)).symm | (intro q; rw [q, ha2] at hr; cases hr)
    refine hG ⟨e4, g4, vs', ps ++ [(r, out z)], hvs.symm, by rw [hv, e0, List.map_append]; rfl, ?_, ?_, ?_, fun u hu => j2 u (List.mem_cons_of_mem _ hu)⟩
    · intro p hp
      rcases List.mem_append.mp hp with hp | hp
      · exact ⟨(e3 p hp).1, (e3 p hp).2.1, g4 _ _ (e3 p hp).2.2⟩
      · cases List.mem_singleton.mp hp
        exact ⟨hr1, hra, hr4⟩
    · rw [List.map_append]
      refine nodup_snoc nd fun hm => ?_
      obtain ⟨p, hp, e⟩ := List.mem_map.mp hm
      have h1 := (e3 p hp).2.2
      have e : p.1 = r := e
      rw [e, hr] at h1; cases h1
    · rw [← j1, List.map_append, List.append_assoc]; rfl
  · rintro ys H' g ha' ⟨vs, ps, e, e2, e3, nd, j1, _⟩
    cases vs with
    | cons _ _ => cases e
    | nil => exact fin a H' ps ha g (e2 ▸ ha') e3 ((List.append_nil _).symm.trans j1) nd
end

section
variable {α β : Type} {C : Cx} {A : Around} {E : Value → Shared → Prop} {f : Fm} {L : Loc} {H : AH}
noncomputable def PairsW (C : Cx) (A : Around) (E : Value → Shared → Prop) (f : Fm) : List (Int × Expr) → List (Int × Value) → Loc → AH → (List (Int × Value) → Loc → AH → Prop) → Prop
  | [], acc, L, H, Q => Q acc L H
  | (k, v) :: r, acc, L, H, Q => EW C A E f v L H fun vv L1 H1 => PairsW C A E f r (acc ++ [(k, vv)]) L1 H1 Q
end

section
variable {prog : Program} {w : World} {A : Around} {E : Value → Shared → Prop} {s : Shared} {a₀ : Array Keyed}
theorem run_whole {st : SortSt} {Q : Option Nat → SortSt → Prop} (h0 : IntKeys a₀) (hB : SBase a₀ st) (h1 : 1 ≤ a₀.size) (hs : SortedTo (arrOf st) a₀.size) (h : Q (some a₀.size) st) :
    wpS (model prog w) A E s (countRun' 0 a₀.size) Q st := by
  rw [countRun0_eq]
  refine wpS_bind (wpS_ascLoop h0 (Nat.le_refl _) (Nat.le_refl 1) h1 hB (fun i j hij hj => hs i j hij (by lia)) fun n hn1 hn2 _ hor => ?_)
  have hn : n = a₀.size := by
    rcases hor with e | e
    · exact e
    · by_cases q : n = a₀.size
      · exact q
      · have := hs (n - 1) n (by lia) (by lia)
        lia
  subst hn
  dsimp only
  rw [if_pos (by simp)]
  exact wpS_pure h
theorem runs_whole {st : SortSt} {Q : Unit → SortSt → Prop} (h0 : IntKeys a₀) (hB : SBase a₀ st) (h2 : 1 ≤ a₀.size) (hmr : minRun' a₀.size a₀.size 0 ≤ a₀.size) (hs : SortedTo (arrOf st) a₀.size)
    (h : ∀ st', (arrOf st').Perm a₀ → failedOf st' = none → SortedTo (arrOf st') a₀.size → Q () st') : wpS (model prog w) A E s sortRuns' Q st := by
  rw [sortRuns'_eq]
  refine wpS_bind (wpS_get ?_)
  dsimp only
  have hz := hB.size
  generalize (arrOf st).size = nz at hz ⊢
  subst hz
  refine wpS_bind (wpS_mono (wpS_forRange
    (I := fun x c st' => (x = 0 ∧ c = (none, 0) ∧ SBase a₀ st' ∧ SortedTo (arrOf st') a₀.size) ∨ (1 ≤ x ∧ c = (none, a₀.size) ∧ SDone a₀ st'))
    (Q := fun c st' => c = (none, a₀.size) ∧ SDone a₀ st') ?step ?fin (.inl ⟨rfl, rfl, hB, hs⟩)) ?post)
  case fin =>
    rintro c st' (⟨hx, _⟩ | ⟨_, hc, hD⟩)
    · lia
    · exact ⟨hc, hD⟩
  case step =>
    rintro x c st' _ hx (hx1 | ⟨_, rfl, hD⟩)
    · have e1 := hx1.1
      have e2 := hx1.2.1
      have hB' := hx1.2.2.1
      have hs' := hx1.2.2.2
      clear hx1
      subst e1
      subst e2
      dsimp only
      rw [if_neg (by lia)]
      rw [Nat.sub_zero, Nat.zero_add]
      refine wpS_bind (run_whole h0 hB' h2 hs' ?_)
      dsimp only
      rw [if_neg (by lia)]
      refine wpS_bind (wpS_get ?_)
      have hb : (pendingOf st').back? = none := by rw [hB'.pend]; rfl
      rw [hb]
      exact wpS_bind (wpS_modify (wpS_pure (.inr ⟨by lia, by rw [Nat.zero_add], hB'.done hs'⟩)))
    · dsimp only
      rw [if_pos (Nat.le_refl _)]
      exact wpS_pure ⟨rfl, hD⟩
  case post =>
    rintro c st' ⟨rfl, hD⟩
    dsimp only
    refine wpS_bind (wpS_mono (wpS_forRange (I := fun _ c st'' => st'' = st' ∧ c = (none, ())) (Q := fun c st'' => st'' = st' ∧ c = (none, ())) ?_ (fun _ _ hh => hh) ⟨rfl, rfl⟩) ?_)
    · rintro x c st'' _ _ ⟨rfl, rfl⟩
      refine wpS_bind (wpS_get ?_)
      rw [if_pos (by rw [hD.2.2.1]; exact Nat.le_refl 1)]
      exact wpS_pure ⟨rfl, rfl⟩
    · rintro c st'' ⟨rfl, rfl⟩
      exact wpS_pure (h _ hD.1 hD.2.1 hD.2.2.2)
theorem minrun_le {n : Nat} (h : n ≤ 200) : minRun' n n 0 ≤ n := by
  have : ∀ n, n < 201 → minRun' n n 0 ≤ n := by decide +kernel
  exact this n (by lia)
theorem K_pairs {vs : List Value} {ns : List Int} (hI : IntsAre vs ns) {i : Nat} (hi : i < ns.length) : K (pairsOf vs) i = ns[i] := by
  have hl : vs.length = ns.length := by rw [← hI.nums]; simp
  have h1 : i < (pairsOf vs).size := by rw [pairsOf_size]; lia
  rw [K_eq h1]
  have : (pairsOf vs)[i].1 = vs[i]'(by lia) := by simp [pairsOf]
  rw [this]
  have h3 := hI.nums
  have : (vs.map numOf)[i]'(by simp; lia) = ns[i] := by simp only [h3]
  rw [← this]; simp
theorem sort_rising {a : Addr} {vs : List Value} {ns : List Int} {n : Nat} {P : Fin → Shared → Prop} (ho : s.heap.get? a = some (seqObj "list" vs.toArray n))
    (hI : IntsAre vs ns) (hr : ns.Pairwise (· ≤ ·)) (h2 : 2 ≤ vs.length) (h200 : vs.length ≤ 200)
    (h : ∀ (out : Array Value) (ns' : List Int), IntsAre out.toList ns' → ns'.Perm ns → ns'.Pairwise (· ≤ ·) → P (.done (.ret .none)) { s with heap := sortedHeap s.heap a vs out }) :
    wpAny (model prog w) A (Builtin.«list.sort» ⟨[.ref a], []⟩) P E s := by
  rw [list_sort_plain]
  have ha : a < s.heap.objs.size := Heap.lt_size ho
  have hbig : 1000 ≤ sizeLine := by decide
  refine wpAny_bind (listItems_at ho rfl (wpAny_bind (listUpdate_at ho rfl ?_ (by simp; lia) (by simp))))
  obtain ⟨e1, q1⟩ : ∃ e1, (s.heap.update a (Obj.mapSeq fun _ => #[])).get? a = some (seqObj "list" #[] e1) := ⟨_, get?_update_seq ho (fun _ => (#[] : Array Value))⟩
  refine wpAny_bind (seqEpoch_at q1 rfl (wpAny_bind (wpAny_newTuple ?_ (by simp; lia))))
  refine wpAny_bind (wpAny_newList (wpAny_holding ?_) (by simp))
  have q6 : (((s.heap.update a (Obj.mapSeq fun _ => #[])).push (seqObj "tuple" vs.toArray 0)).push (seqObj "list" #[] 0)).get? a = some (seqObj "list" #[] e1) := by
    rw [Heap.get?_push_ne _ _ _ (by rw [size_push', Heap.size_update]; exact Nat.ne_of_lt (Nat.lt_succ_of_lt ha)), Heap.get?_push_ne _ _ _ (by rw [Heap.size_update]; exact Nat.ne_of_lt ha)]
    exact q1
  show wpAny (model prog w) A _ P E { s with heap := ((s.heap.update a (Obj.mapSeq fun _ => #[])).push (seqObj "tuple" vs.toArray 0)).push (seqObj "list" #[] 0) }
  dsimp only
  have hsz : ¬ vs.toArray.size < 2 := by simp; lia
  rw [if_neg hsz, if_neg hsz]
  obtain ⟨v₁, v₂, rest, rfl⟩ : ∃ v₁ v₂ rest, vs = v₁ :: v₂ :: rest := by
    match vs, h2 with
    | [], h2 => simp at h2
    | [_], h2 => simp at h2
    | v₁ :: v₂ :: rest, _ => exact ⟨v₁, v₂, rest, rfl⟩
  rw [keyKind_ints hI]
  refine wpAny_bind (wpAny_pure ?_)
  have hB : SBase (pairsOf (v₁ :: v₂ :: rest)) (SortSt.mk' oneType' ((v₁ :: v₂ :: rest).toArray.zip (v₁ :: v₂ :: rest).toArray) #[] 7 none) := ⟨Array.Perm.refl _, rfl, rfl, rfl⟩
  have hlen : (v₁ :: v₂ :: rest).length = ns.length := by rw [← hI.nums]; simp
  have hs : SortedTo (pairsOf (v₁ :: v₂ :: rest)) (pairsOf (v₁ :: v₂ :: rest)).size := by
    intro i j hij hj
    rw [pairsOf_size, hlen] at hj
    rw [K_pairs hI (by lia), K_pairs hI hj]
    rcases Nat.lt_or_eq_of_le hij with e | rfl
    · exact List.pairwise_iff_getElem.mp hr i j (by lia) hj e
    · exact Int.le_refl _
  refine wpAny_bind (wpAny_mono (runs_whole (a₀ := pairsOf (v₁ :: v₂ :: rest)) (Q := fun _ st' => (arrOf st').Perm (pairsOf (v₁ :: v₂ :: rest)) ∧ failedOf st' = none ∧ SortedTo (arrOf st') (pairsOf (v₁ :: v₂ :: rest)).size)
    hI.intKeys hB (by rw [pairsOf_size]; simp) (minrun_le (by rw [pairsOf_size]; exact h200)) hs fun st' a1 a2 a3 => ⟨a1, a2, a3⟩) ?_ fun _ _ e => e)
  rintro ⟨⟨⟩, st'⟩ s' ⟨rfl, hp, hf, hs'⟩
  dsimp only
  have hz : ((arrOf st').map (·.2)).size ≤ 200 := by
    rw [Array.size_map, hp.size_eq, pairsOf_size]; exact h200
  refine wpAny_bind (seqEpoch_at q6 rfl (wpAny_bind (listUpdate_at q6 rfl ?_ (by simp) (by lia))))
  rw [hf]
  have hne : ∀ n : Nat, (n != n) = false := by simp
  simp only [hne, Bool.false_eq_true, if_false]
  obtain ⟨ns', h1, h3, h4⟩ := sorted_out hI hp hs'
  exact wpAny_pure (h _ ns' h1 h3 h4)
theorem sorted_rising {l : Addr} {vs : List Value} {ns : List Int} {Q : Value → Shared → Prop} (hl : s.heap.IsList l vs.toArray) (hI : IntsAre vs ns) (hr : ns.Pairwise (· ≤ ·)) (h2 : 2 ≤ vs.length) (h200 : vs.length ≤ 200)
    (h : ∀ (out : Array Value) (ns' : List Int), IntsAre out.toList ns' → ns'.Perm ns → ns'.Pairwise (· ≤ ·) → Q (.ref (s.heap.objs.size + 1)) { s with heap := sortedAll s.heap vs out }) :
    wpAny (model prog w) A (call (.builtin "sorted") [.ref l]) Q E s := by
  have hbig : 1000 ≤ sizeLine := by decide
  refine Calls.call_function_entry kind_sorted plain_sorted entry_sorted (args_sorted1 _) ?_
  unfold Builtin.«sorted»
  refine wpAny_bind (m := checkCount "sorted" 1 1 _) (wpAny_pure (wpAny_bind (collect_list hl (wpAny_bind (wpAny_newList ?_ (by lia))) (by lia))))
  have hsz : ((s.heap.push (seqObj "list" #[] 0)).update s.heap.objs.size (Obj.mapSeq (· ++ vs.toArray))).objs.size = s.heap.objs.size + 1 := by
    rw [Heap.size_update, size_push']
  have hoL : (((s.heap.push (seqObj "list" #[] 0)).update s.heap.objs.size (Obj.mapSeq (· ++ vs.toArray))).push (seqObj "list" vs.toArray 0)).get? (s.heap.objs.size + 1) = some (seqObj "list" vs.toArray 0) := by
    rw [← hsz]; exact Heap.get?_push_size _ rfl
  show wpAny _ _ _ _ _ { s with heap := ((s.heap.push (seqObj "list" #[] 0)).update s.heap.objs.size (Obj.mapSeq (· ++ vs.toArray))).push (seqObj "list" vs.toArray 0) }
  rw [hsz]
  refine wpAny_bind (wpAny_holding (wpAny_call_entry slot_list_sort ⟨_, hoL, rfl⟩ entry_list_sort (sort_rising hoL hI hr h2 h200 fun out ns' a1 a2 a3 => ⟨_, rfl, ?_⟩) (args_list_sort _)))
  exact wpAny_pure ⟨_, rfl, h out ns' a1 a2 a3⟩
end
theorem ints_of_er : ∀ {vs : List Value} {ns : List Int}, vs.map er = ivs ns → IntsAre vs ns
  | [], [], _ => .nil
  | [], _ :: _, h => by cases h
  | _ :: _, [], h => by cases h
  | v :: vs, n :: ns, h => by
    obtain ⟨h1, h2⟩ := List.cons.inj h
    obtain ⟨t, rfl⟩ := er_int h1
    exact .cons n t (ints_of_er h2)
theorem er_of_ints : ∀ {vs : List Value} {ns : List Int}, IntsAre vs ns → vs.map er = ivs ns
  | _, _, .nil => rfl
  | _, _, .cons n t h => by
    rw [List.map_cons, er_of_ints h]; rfl
section
variable {C : Cx} {A : Around} {E : Value → Shared → Prop} {f : Fm} {L : Loc} {H : AH}
theorem CallP.sortedInts {a : Addr} {ns : List Int} {Q : Value → AH → Prop} (ha : H a = some (.list (ivs ns))) (hsz : ns.length < 64 ∨ (ns.length ≤ 200 ∧ ns.Pairwise (· ≤ ·)))
    (h : ∀ r ns', H r = none → ns'.Perm ns → ns'.Pairwise (· ≤ ·) → Q (.ref r) (upd H r (.list (ivs ns')))) : CallP C A E (.builtin "sorted") [.ref a] H Q := by
  refine CallP.of1 fun s R => ?_
  obtain ⟨vs, n, e, q⟩ := R.rep a _ ha
  have hI := ints_of_er q
  have hlen : vs.toList.length = ns.length := by have := congrArg List.length q; simpa [ivs] using this
  have hl : s.heap.IsList a vs.toList.toArray := by rw [Array.toArray_toList]; exact ⟨_, e, rfl, n, rfl⟩
  have fin : ∀ (out : Array Value) (ns' : List Int), IntsAre out.toList ns' → ns'.Perm ns → ns'.Pairwise (· ≤ ·) → PO C H s (fun v H' => Q (er v) H') (.ref (s.heap.objs.size + 1)) { s with heap := sortedAll s.heap vs.toList out } := by
    intro out ns' h1 h2 h3
    obtain ⟨ep, hat⟩ := sortedAll_at s.heap vs.toList out
    have hd : s.heap.get? (s.heap.objs.size + 1) = none := by
      cases q : s.heap.get? (s.heap.objs.size + 1) with
      | none => rfl
      | some o => exact absurd (Heap.lt_size q) (Nat.not_lt.mpr (Nat.le_succ _))
    obtain ⟨R', k⟩ := R.alloc (tk := s.toks) (o := .list (ivs ns')) hd (fun b o e => sortedAll_old e) ⟨out, ep, hat, er_of_ints h1⟩ rfl (Nat.le_succ _)
    exact ⟨_, R', k, ⟨rfl, rfl⟩, h _ ns' (R.dead hd).1 h2 h3⟩
  by_cases h64 : vs.toList.length < 64
  · exact sorted_ints hl hI h64 fin
  · rcases hsz with e | ⟨e1, e2⟩
    · lia
    · exact sorted_rising hl hI e2 (by lia) (by lia) fin
end

section
variable {C : Cx} {A : Around} {E : Value → Shared → Prop} {H H0 : AH} {f : Fm} {L : Loc}
theorem lcompLoop {elt it : Expr} {x y : Str} {xp yp tp : Pos} {kk : Nat} {scope : Scope} {outer : List (Str × NameKind)} {R : Addr → AH → Prop} {xv : Value} {L1 : Loc} {H1 : AH} (hh : A.handled = none) (F : FrameC f outer) (hsc : scopeOk scope outer = true) (hx : ownK (scope.names.lookup x) = true) (hy : scope.names.lookup y = some .local) (hxy : x ≠ y)
    (q : ∃ (ps : List (Addr × Value × Value)) (out : Addr × Value × Value → Value) (D : AH → Prop), An7 (D H1) (IterP C A xv (ps.map fun p => .ref p.1) D) (∀ H', Ge H1 H' → D H') (ps.length ≤ 1000) (∀ p ∈ ps, H1 p.1 = some (.tuple [p.2.1, p.2.2]))
      (∀ f' p L2 H2, p ∈ ps → FrameC f' (relN scope.names outer) → Ge H1 H2 → (∀ y, scope.names.lookup y = some .free → L2 y = L1 y) → L2 x = some p.2.1 → L2 y = some p.2.2 → EW C A nx f' elt L2 H2 (fun v L4 H4 => An3 (L4 = L2) (Ge H2 H4) (v = out p)))
      (∀ r H', Ge H1 H' → H1 r = none → H' r = some (.list (ps.map out)) → R r H')) :
    ∃ xs D, D H1 ∧ IterP C A xv xs D ∧ ∀ a, H1 a = none → D (upd H1 a (.list [])) ∧
      ∀ K', loopC (turnC C A (compFm f.env scope K') ⟨.Tuple [.Name x xp, .Name y yp] kk tp, it, [], 0⟩ (CompG C A (compFm f.env scope K') (emList C A (compFm f.env scope K') elt a) [])) D xs (compL scope L1) (upd H1 a (.list [])) fun _ H2 => R a H2 := by
  obtain ⟨ps, out, D, d1, ip, hD, hsz, htu, hbody, hfin⟩ := q
  refine ⟨_, D, d1, ip, fun a ha => ⟨hD _ (.upd ha), fun K' => ?_⟩⟩
  have FC := F.comp hsc K'
  have hxg : ∀ (v : Value) (L : Loc) (H : AH) (Q : Loc → AH → Prop), Q (setL L x v) H → GW C A nx (compFm f.env scope K') (.Name x xp) v L H Q := by
    intro v L H Q q
    have hxk : (compFm f.env scope K').env.kindOf x = scope.names.lookup x := by
      rw [FC.kinds]; unfold relN
      rw [lookup_map_fst (fun p => (p.1, if (p.2 == .free && outer.lookup p.1 == some .cell) then .cell else p.2)) (fun _ => rfl)]
      rcases ownK.or hx with h | h <;> rw [h] <;> rfl
    rcases ownK.or hx with h | h
    · exact GW.local (hxk.trans h) FC.loc q
    · exact GW.cell (hxk.trans h) (compFm_cell h) q
  have kindL : ∀ z, scope.names.lookup z = some .local → (compFm f.env scope K').env.kindOf z = some .local := fun z hz => by
    rw [FC.kinds]; unfold relN
    rw [lookup_map_fst (fun p => (p.1, if (p.2 == .free && outer.lookup p.1 == some .cell) then .cell else p.2)) (fun _ => rfl), hz]; rfl
  have key : ∀ (us : List (Addr × Value × Value)) (ys : List Value) (L2 : Loc) (H2 : AH), (∀ p ∈ us, p ∈ ps) → ys.length + us.length ≤ 1000 → Ge H1 H2 → H2 a = some (.list ys) → (∀ y, scope.names.lookup y = some .free → L2 y = L1 y) → ys ++ us.map out = ps.map out →
      loopC (turnC C A (compFm f.env scope K') ⟨.Tuple [.Name x xp, .Name y yp] kk tp, it, [], 0⟩ (CompG C A (compFm f.env scope K') (emList C A (compFm f.env scope K') elt a) [])) D (us.map fun p => .ref p.1) L2 H2 fun _ H2 => R a H2 := by
    intro us
    induction us with
    | nil =>
      intro ys L2 H2 _ _ g ha2 hl e
      refine hfin a H2 g ha ?_
      rw [ha2, ← e]; simp
    | cons u us ih =>
      intro ys L2 H2 hu hlen g ha2 hl e
      rw [List.length_cons] at hlen
      refine GW.tuple2 hh (g _ _ (htu u (hu u List.mem_cons_self))) ?_
      refine hxg _ _ _ _ ?_
      refine GW.local (kindL y hy) FC.loc ?_
      have hl2 : ∀ z, scope.names.lookup z = some .free → setL (setL L2 x u.2.1) y u.2.2 z = L1 z := fun z hz => by
        rw [setL_ne (by first | exact no_some (hy) hz | exact (no_some (hy) hz).symm | exact no_some hz (hy) | exact (no_some hz (hy)).symm | exact two_ne (hy) hz (by intro q; cases q; done) | exact (two_ne (hy) hz (by intro q; cases q; done)).symm | (rintro rfl; rw [hy] at hz; cases hz)), setL_ne (by first | exact no_some (hz) hx | exact (no_some (hz) hx).symm | exact no_some hx (hz) | exact (no_some hx (hz)).symm | exact two_ne (hz) hx (by intro q; cases q; done) | exact (two_ne (hz) hx (by intro q; cases q; done)).symm | (rintro rfl; rw [hz] at hx; cases hx))]; exact hl z hz
      refine ifsNil ?_
      refine TW.mono (hbody _ u _ H2 (hu u List.mem_cons_self) FC g hl2 ((setL_ne hxy).trans setL_same) setL_same) fun v L4 H4 q4 => ?_
      obtain ⟨rfl, g4, hv⟩ := q4
      have g5 : Ge H1 (upd H4 a (.list (ys ++ [er v]))) := fun b o hb => by
        have hba : b ≠ a := by first | exact no_some (ha) hb | exact (no_some (ha) hb).symm | exact no_some hb (ha) | exact (no_some hb (ha)).symm | exact two_ne (ha) hb (by intro q; cases q; done) | exact (two_ne (ha) hb (by intro q; cases q; done)).symm | (rintro rfl; rw [ha] at hb; cases hb)
        rw [upd_ne _ _ hba]; exact g4 _ _ (g _ _ hb)
      refine ⟨ys, g4 _ _ ha2, Nat.le_trans (by lia) (by decide : 1000 ≤ sizeLine), hD _ g5, ih _ _ _ (fun p hp => hu p (List.mem_cons_of_mem _ hp)) (by simp; lia) g5 (upd_self ..) hl2 ?_⟩
      rw [hv, ← e]; simp
  refine key ps [] _ _ (fun _ h => h) (by simpa using hsz) (.upd ha) (upd_self ..) (fun y hy => ?_) (by simp)
  unfold compL; rw [hy]
theorem EW.lcompT {elt it : Expr} {x y : Str} {xp yp tp p : Pos} {kk : Nat} {scope : Scope} {outer : List (Str × NameKind)} {Q : Value → Loc → AH → Prop} (hh : A.handled = none) (F : FrameC f outer) (hsc : scopeOk scope outer = true) (hx : ownK (scope.names.lookup x) = true) (hy : scope.names.lookup y = some .local) (hxy : x ≠ y)
    (hs : ∀ env v, foldedSetIterable it env v = pure v)
    (h : EW C A E f it L H fun xv L1 H1 => ∃ (ps : List (Addr × Value × Value)) (out : Addr × Value × Value → Value) (D : AH → Prop), An7 (D H1) (IterP C A xv (ps.map fun p => .ref p.1) D) (∀ H', Ge H1 H' → D H') (ps.length ≤ 1000) (∀ p ∈ ps, H1 p.1 = some (.tuple [p.2.1, p.2.2]))
      (∀ f' p L2 H2, p ∈ ps → FrameC f' (relN scope.names outer) → Ge H1 H2 → (∀ y, scope.names.lookup y = some .free → L2 y = L1 y) → L2 x = some p.2.1 → L2 y = some p.2.2 → EW C A nx f' elt L2 H2 (fun v L4 H4 => An3 (L4 = L2) (Ge H2 H4) (v = out p)))
      (∀ r H', Ge H1 H' → H1 r = none → H' r = some (.list (ps.map out)) → Q (.ref r) L1 H')) :
    EW C A E f (.ListComp elt [⟨.Tuple [.Name x xp, .Name y yp] kk tp, it, [], 0⟩] scope p) L H Q := by
  refine EW.listComp (scopeOk.ok F hsc) (fun K' g' hg => ?_) (hs _) (TW.mono h fun xv L1 H1 q => lcompLoop hh F hsc hx hy hxy q)
  cases List.mem_singleton.mp hg
  exact ⟨rfl, hs _⟩
set_option genInjectivity false in
structure Rw where
  t : Addr
  l : Addr
  r : List Int
  s : Int
noncomputable def RwAt (H : AH) (w : Rw) : Prop := H w.t = some (.tuple [.ref w.l, .int w.s 0]) ∧ H w.l = some (.list (ivs w.r))
end

theorem bits64 {b : Int} (h : b.natAbs < 2 ^ 60) : Builtin.Int.intBits b ≤ 64 := by
  unfold Builtin.Int.intBits
  split
  · exact Nat.zero_le _
  · rename_i hb
    have hb : b.natAbs ≠ 0 := by
      intro e; apply hb; simp; lia
    have := (Nat.log2_lt hb).mpr h
    lia
theorem mulL {a b : Int} (h : a.natAbs < 2 ^ 60) : IntMulOk a b := IntMulOk.of_left (bits64 h)
theorem ivs_get {xs : List Int} {i : Nat} {x : Int} (h : xs[i]? = some x) : (ivs xs)[i]? = some (.int x 0) := by simp [ivs, h]
section
variable {C : Cx} {A : Around} {E : Value → Shared → Prop} {f : Fm} {L : Loc} {H : AH}
noncomputable abbrev Pe2 (C : Cx) (A : Around) (E : Value → Shared → Prop) (g : Value → Value → Sem Value) (a b : Value) (H : AH) (Q : Value → AH → Prop) : Prop := P2 C A E g a b H fun v H' => Q (er v) H'
theorem EW.binopE {l r : Expr} {op : Operator} {p : Pos} {Q : Value → Loc → AH → Prop} (h : EW C A E f l L H fun a L1 H1 => EW C A E f r L1 H1 fun b L2 H2 => Pe2 C A E (binaryOp op) a b H2 fun v H3 => Q v L2 H3) : EW C A E f (.BinOp l op r p) L H Q := EW.binop h
theorem EW.subscriptE {v i : Expr} {p : Pos} {Q : Value → Loc → AH → Prop} (h : EW C A E f v L H fun a L1 H1 => EW C A E f i L1 H1 fun b L2 H2 => Pe2 C A E (subscriptTail v i) a b H2 fun r H3 => Q r L2 H3) : EW C A E f (.Subscript v i p) L H Q := EW.subscript h
theorem Pe2.add {a b : Int} {Q : Value → AH → Prop} (h : Q (.int (a + b) 0) H) : Pe2 C A E (binaryOp .Add) (.int a 0) (.int b 0) H Q := P2.add fun _ => h
theorem Pe2.sub {a b : Int} {Q : Value → AH → Prop} (h : Q (.int (a - b) 0) H) : Pe2 C A E (binaryOp .Sub) (.int a 0) (.int b 0) H Q := P2.sub fun _ => h
theorem Pe2.mul {a b : Int} {Q : Value → AH → Prop} (hm : IntMulOk a b) (h : Q (.int (a * b) 0) H) : Pe2 C A E (binaryOp .Mult) (.int a 0) (.int b 0) H Q := P2.mul hm fun _ => h
theorem Pe2.mod {a b : Int} {Q : Value → AH → Prop} (hb : b ≠ 0) (h : Q (.int (a.fmod b) 0) H) : Pe2 C A E (binaryOp .Mod) (.int a 0) (.int b 0) H Q := P2.mod hb fun _ => h
theorem Pe2.div {a b : Int} {Q : Value → AH → Prop} (hb : b ≠ 0) (hp : Builtin.divisionGoesByPylong a b = false) (h : Q (.int (a.fdiv b) 0) H) : Pe2 C A E (binaryOp .FloorDiv) (.int a 0) (.int b 0) H Q := P2.div hb hp fun _ => h
theorem Pe2.subDict {ve ie : Expr} {a : Addr} {es : List (Int × Value)} {ep : Nat} {i : Int} {x : Value} {Q : Value → AH → Prop} (ha : H a = some (.dict es ep)) (hx : valueAt es i = some x) (h : Q x H) (hs : isSlice ie = false := by rfl) : Pe2 C A E (subscriptTail ve ie) (.ref a) (.int i 0) H Q := P2.subDict ha hx (fun v ev => show Q (er v) H from ev ▸ h) hs
theorem Pe2.subList {ve ie : Expr} {a : Addr} {xs : List Value} {i : Int} {x : Value} {Q : Value → AH → Prop} (ha : H a = some (.list xs)) (h0 : 0 ≤ i) (hx : xs[i.toNat]? = some x) (hfit : i < 2 ^ 63) (h : Q x H) (hs : isSlice ie = false := by rfl) : Pe2 C A E (subscriptTail ve ie) (.ref a) (.int i 0) H Q := P2.subList ha h0 hx hfit (fun v ev => show Q (er v) H from ev ▸ h) hs
set_option genInjectivity false in
structure Hid (R Q : Value → Loc → AH → Prop) : Prop where
  go : ∀ v L H, Q v L H → R v L H
theorem Hid.use {R Q : Value → Loc → AH → Prop} {v : Value} (h : Hid R Q) (q : Q v L H) : R v L H := h.go _ _ _ q
theorem EW.hide {e : Expr} {Q : Value → Loc → AH → Prop} (h : ∀ R, Hid R Q → EW C A E f e L H R) : EW C A E f e L H Q := h Q ⟨fun _ _ _ q => q⟩
noncomputable def longE : Expr → Bool
  | .BinOp _ _ _ _ => true
  | .Subscript _ _ _ => true
  | .Call _ _ _ _ => true
  | _ => false
theorem EW.binopH {l r : Expr} {op : Operator} {p : Pos} {Q : Value → Loc → AH → Prop} (hl : longE l = true) (h : ∀ R, Hid R (fun a L1 H1 => EW C A E f r L1 H1 fun b L2 H2 => Pe2 C A E (binaryOp op) a b H2 fun v H3 => Q v L2 H3) → EW C A E f l L H R) : EW C A E f (.BinOp l op r p) L H Q := EW.binopE (EW.hide h)
theorem AW.consH {a : Expr} {as : List Expr} {p : Pos} {Q : List Value → Loc → AH → Prop} (ha : longE a = true) (h : ∀ R, Hid R (fun v L1 H1 => AW C A E f p as L1 H1 fun vs L2 H2 => Q (v :: vs) L2 H2) → EW C A E f a L H R) (hs : isStar a = false) : AW C A E f p (a :: as) L H Q := AW.cons (EW.hide h) hs
end
local macro_rules | `(tactic| walk_at "ww1") => do `(tactic| first
  | with_reducible refine Hid.use (by assumption) ?_
  | focus ((with_reducible refine EW.binopH ?_ ?_); rfl; intro _ _)
  | focus ((with_reducible refine AW.consH ?_ ?_ ?_); rfl; rotate_left; rfl; intro _ _)
  | $(← Mine.Alts 1 "EW.subscriptE EW.binopE"):tactic)

set_option genInjectivity false in
structure LandX (C : Cx) (ex : List Addr) (h h' : Heap) : Prop where
  stays : (butH h (ex ++ C.fr)).StaysIn h'
  data : ∀ b o, h.get? b = some o → (∀ vs, o.data ≠ .fields vs) → ∃ o', h'.get? b = some o' ∧ o'.data = o.data
section
variable {α β : Type} {C : Cx} {A : Around} {E : Value → Shared → Prop} {f : Fm} {L : Loc} {H : AH} {ex : List Addr}
theorem LandX.at {h h' : Heap} (l : LandX C ex h h') {b : Addr} {o : Obj} (hb : h.get? b = some o) (h1 : b ∉ ex) (h2 : b ∉ C.fr) : h'.get? b = some o :=
  l.stays b o (by rw [butH_get, if_neg (fun hm => (List.mem_append.mp hm).elim h1 h2)]; exact hb)
theorem LandX.rel {s : Shared} {h' : Heap} {tk : Nat} (l : LandX C ex s.heap h') (R : Rel C H s) (hx : ∀ e ∈ ex, H e = none ∧ C.h₀.get? e = none) : Rel C H { s with heap := h', toks := tk } := by
  refine ⟨fun b o hb => l.at (R.keep b o hb) (fun hm => by rw [(hx b hm).2] at hb; cases hb) fun hm => ?_, fun a o ha => ?_, R.low, R.hid, fun x hx => ?_⟩
  · rw [(R.live b hm).2.2] at hb; cases hb
  · have key : ∀ b o', H b = some o' → ∀ x, s.heap.get? b = some x → h'.get? b = some x := by
      intro b o' hb x hx'
      refine l.at hx' (fun hm => by rw [(hx b hm).1] at hb; cases hb) fun hm => ?_
      rw [(R.live b hm).2.1] at hb; cases hb
    refine (R.rep a o ha).at fun b hb x hx => ?_
    cases o with
    | inst c d fs sl =>
      simp only [AO.foot, List.mem_cons, List.not_mem_nil, or_false] at hb
      rcases hb with rfl | rfl
      · exact key _ _ ha x hx
      · exact key _ _ (R.hid _ _ _ _ _ ha) x hx
    | _ => simp only [AO.foot, List.mem_singleton] at hb; subst hb; exact key _ _ ha x hx
  · obtain ⟨⟨o, q1, q2⟩, q3⟩ := R.live x hx
    obtain ⟨o', g1, g2⟩ := l.data x o q1 q2
    exact ⟨⟨o', g1, fun vs => g2 ▸ q2 vs⟩, q3⟩
theorem LandX.frame {h h' : Heap} (l : LandX C ex h h') (F : FrOk C f L H h) : FrOk C f L H h' := by
  refine F.keepsAt fun a o ha Ha hm => ⟨?_, Ha⟩
  refine l.data a o ha ?_
  rcases hm with rfl | ⟨x, hx, hc⟩
  · obtain ⟨m, ⟨o', es, ep, e', hd, _⟩, _⟩ := F.ns
    rw [ha] at e'; cases e'
    intro vs q; rw [hd] at q; cases q
  · obtain ⟨c, v, e1, ⟨o', e2, e3⟩, _⟩ := F.cell x hx
    rw [hc] at e1; cases e1
    rw [ha] at e2; cases e2
    intro vs q; rw [e3] at q; cases q
theorem LandX.kept {s : Shared} {h' : Heap} (l : LandX C ex s.heap h') (R : Rel C H s) : ∀ a o, a ∉ ex → s.heap.get? a = some o → ∃ o', h'.get? a = some o' ∧ o'.data = o.data ∧ (a ∉ C.fr → o' = o) := by
  intro a o hne ha
  by_cases hm : a ∈ C.fr
  · obtain ⟨⟨o1, q1, q2⟩, q3⟩ := R.live a hm
    rw [ha] at q1; cases q1
    obtain ⟨o', g1, g2⟩ := l.data a o ha q2
    exact ⟨o', g1, g2, fun hn => absurd hm hn⟩
  · exact ⟨o, l.at ha hne hm, rfl, fun _ => rfl⟩
theorem LandX.of_slots {h h' : Heap} (k : (butH h (ex ++ C.fr)).StaysIn h') (u : h.UpToSlots h') : LandX C ex h h' :=
  ⟨k, fun b o hb hn => let ⟨sl, q⟩ := u b o hb hn; ⟨_, q, rfl⟩⟩
set_option genInjectivity false in
structure Flew (C : Cx) (cls : Value) (e T : Addr) (H : AH) (h : Heap) : Prop where
  he : H e = none ∧ C.h₀.get? e = none
  hT : H T = none ∧ C.h₀.get? T = none
  oT : ∃ oT ts, h.get? T = some oT ∧ oT.data = .fields ts
  tr : ∃ a0, ∀ base : Heap, base.get? T = none → h.TracedW base e cls a0
theorem fr_notFields {s : Shared} (R : Rel C H s) {b : Addr} {o : Obj} {vs : Array Value} (hb : s.heap.get? b = some o) (hd : o.data = .fields vs) : b ∉ C.fr := by
  intro hm
  obtain ⟨⟨o1, q1, q2⟩, _⟩ := R.live b hm
  rw [hb] at q1; cases q1
  exact q2 vs hd
theorem hl_of {s : Shared} (R : Rel C H s) {ex : List Addr} : ∀ L ∈ C.fr, (butH s.heap (ex ++ C.fr)).get? L = none ∧ ∃ o, s.heap.get? L = some o ∧ ∀ vs, o.data ≠ .fields vs :=
  fun L hL => ⟨by rw [butH_get, if_pos (List.mem_append_right _ hL)], (R.live L hL).1⟩
theorem butH_stays (h : Heap) (ex : List Addr) : (butH h ex).StaysIn h := by
  intro b o hb
  rw [butH_get] at hb
  split at hb
  · cases hb
  · exact hb
theorem leaves_made {e : Addr} {cls : Value} {args : List Value} {h1 : Heap} {s : Shared} (hA : AF C A f) (F : FrOk C f L H s.heap) (R : Rel C H s) (hx : Heap.MadeExcOf s.heap h1 e cls args) {Q : Unit → Shared → Prop}
    (h : ∀ s', Rel C H s' → FrOk C f L H s'.heap → Kept C.fr f.ow H H s.heap s'.heap → Still s s' → s.heap.get? e = none → ∀ T, s.heap.get? T = none → Flew C cls e T H s'.heap → Q () s') :
    wpAny (model C.prog C.w) A (leaving f.env (.ref e)) Q E { s with heap := h1 } := by
  obtain ⟨outer, hfr, hout, hf, hlm⟩ := hA
  have hall : FrsOk C (f.env :: outer) := by
    intro env hm
    rcases List.mem_cons.mp hm with rfl | hm
    · exact ⟨by rw [F.kind]; decide, _, hlm, hf⟩
    · exact hout env hm
  refine wpAny_leaves_madeW (base := butH s.heap ([] ++ C.fr)) (h := s.heap) hfr hf (butH_stays _ _) (fun_frames (hl_of R) hall) hx fun h' t hfl htu htn hup => ?_
  obtain ⟨k1, k2, k3, oe, vs, T, oT, ts, g1, g2, g3, g4, g5, g6, g7, g8, g9⟩ := hfl
  have hup' : s.heap.UpToSlots h' := (Heap.UpToSlots.of_keeps hx.keeps).trans hup
  have LX : LandX C [] s.heap h' := .of_slots k1 hup'
  have R' : Rel C H { s with heap := h', toks := s.toks } := LX.rel R (by simp)
  have hed := R.dead hx.new
  have hTs : s.heap.get? T = none := by
    have hTf : T ∉ C.fr := fr_notFields R' (by exact g7) g8
    rw [butH_get, if_neg (by simpa using hTf)] at g5; exact g5
  refine h _ R' (LX.frame F) (fun a o ha Ha _ => ⟨LX.kept R a o (by simp) ha, Ha⟩) ⟨rfl, rfl⟩ hx.new T hTs ⟨hed, R.dead hTs, ⟨oT, ts, g7, g8⟩, .ref t, fun base hb => ⟨oe, vs, T, oT, ts, g1, g2, g3, g4, hb, g6, g7, g8, g9⟩⟩
theorem caughtX {a : Addr} {e T : Addr} {x : Str} {np : Pos} {b₀ : Stmt} {suite : List Stmt} {pos : Pos} {s : Shared} {Q : Flow → Shared → Prop} (hA : AF C A f) (R : Rel C H s) (F : FrOk C f L H s.heap) (Fl : Flew C (.ref a) e T H s.heap)
    (hcl : ktsIn C.K a "BaseException" = true) (hO : C.Ok)
    (ht : ∀ A' E', EW C A' E' f (.Name x np) L H fun v L1 H1 => v = .ref a ∧ L1 = L ∧ H1 = H)
    (h : ∀ A' E' s', Rel C H s' → FrOk C f L H s'.heap → (∀ b o, b ≠ e → b ≠ T → s.heap.get? b = some o → H b = none → b ∉ f.ow → ∃ o', s'.heap.get? b = some o' ∧ o'.data = o.data ∧ (b ∉ C.fr → o' = o)) → Still s s' → wpAny (model C.prog C.w) A' (execs (b₀ :: suite) f.env) Q E' s') :
    wpAny (model C.prog C.w) A (noteFrame (.ref e) f.env) (fun _ s₂ => wpAny (model C.prog C.w) A (setFlight (.ref e) none) (fun _ s₃ =>
      wpAny (model C.prog C.w) A (handleBy (.ref e) f.env [.ExceptHandler (some (.Name x np)) none (b₀ :: suite) pos]) Q E s₃) E s₂) E s := by
  refine hideG fun G hG => ?_
  obtain ⟨outer, hfr, hout, hf, hlm⟩ := hA
  obtain ⟨hed, hTd, ⟨oT, ts, hT, hTf⟩, a0, tr⟩ := Fl
  have hall : FrsOk C (f.env :: outer) := by
    intro env hm
    rcases List.mem_cons.mp hm with rfl | hm
    · exact ⟨by rw [F.kind]; decide, _, hlm, hf⟩
    · exact hout env hm
  have hex : ∀ y ∈ [e, T], H y = none ∧ C.h₀.get? y = none := by
    intro y hy
    simp only [List.mem_cons, List.not_mem_nil, or_false] at hy
    rcases hy with rfl | rfl
    · exact hed
    · exact hTd
  have fl0 : Heap.FlyingW (butH s.heap ([e, T] ++ C.fr)) (f.env :: outer) e (.ref a) a0 s.heap :=
    ⟨butH_stays _ _, by rw [butH_get, if_pos (by simp)], fun_frames (hl_of R) hall, tr _ (by rw [butH_get, if_pos (by simp)])⟩
  refine hG ?_
  refine wpAny_looks_onW hfr hf fl0 fun h1 hh1 u1 => ?_
  refine wpAny_landsW hh1 fun h2 hh2 u2 => ?_
  have u02 := u1.trans u2
  have L2 : LandX C [e, T] s.heap h2 := .of_slots hh2.1 u02
  have R2 : Rel C H { s with heap := h2, toks := s.toks } := L2.rel R hex
  have F2 : FrOk C f L H h2 := L2.frame F
  have noown : ∀ y ∈ [e, T], y ∉ f.ow := by
    intro y hy hm
    have hfl : ∃ o vs, s.heap.get? y = some o ∧ o.data = .fields vs := by
      simp only [List.mem_cons, List.not_mem_nil, or_false] at hy
      rcases hy with rfl | rfl
      · obtain ⟨oe, vs, _, _, _, g1, _, g3, _⟩ := tr {} (by rfl)
        exact ⟨oe, vs, g1, g3⟩
      · exact ⟨oT, ts, hT, hTf⟩
    obtain ⟨o, vs, hy1, hy2⟩ := hfl
    rcases F.own y hm with q | ⟨z, hz, hc⟩
    · exact fr_notFields R hy1 hy2 (q ▸ hlm)
    · obtain ⟨c, v, e1, ⟨o', e2, e3⟩, _⟩ := F.cell z hz
      rw [hc] at e1; cases e1
      rw [hy1] at e2; cases e2
      rw [hy2] at e3; cases e3
  refine hideG fun G hG => ?_
  obtain ⟨nm, q', N, bs, bm, hdct, sn, sub, ab, col, dd, k0, k1, k2, k3, k5, newId, hC, hbase, hbT⟩ := kts_cls hO.kin hcl
  refine hG ?_
  refine wpAny_handleBy_cons (codeAny_handlers_test ?_) (by intro q; cases q; done)
  refine wpAny_mono (ht _ _ _ R2 F2) (fun c s3 ⟨L3, H3, R3, F3, k3, st3, hc, e1, e2⟩ => ?_) fun _ _ e => e
  subst e1; subst e2
  cases er_ref hc
  refine hideG fun G hG => ?_
  obtain ⟨j1, j2, j3, oe, vs, T2, oT2, ts2, g1, g2, g3, g4, g5, g6, g7, g8, g9⟩ := hh2
  have hT2f : T2 ∉ C.fr := fr_notFields R2 (by exact g7) g8
  have hef : e ∉ C.fr := fr_notFields R2 (by exact g1) g3
  have hT2 : (T2 = T ∨ T2 = e ∨ s.heap.get? T2 = none) ∧ (H3 T2 = none ∧ C.h₀.get? T2 = none) ∧ T2 ∉ f.ow := by
    by_cases hm : T2 ∈ [e, T]
    · refine ⟨?_, hex _ hm, noown _ hm⟩
      simp only [List.mem_cons, List.not_mem_nil, or_false] at hm
      rcases hm with h | h
      · exact .inr (.inl h)
      · exact .inl h
    · have hs : s.heap.get? T2 = none := by
        rw [butH_get, if_neg (fun q => (List.mem_append.mp q).elim hm hT2f)] at g5; exact g5
      exact ⟨.inr (.inr hs), R.dead hs, (F.ne hs).2.2⟩
  have E3 := (k3.at g1 hed.1 (noown e (by simp)) hef).1
  have T3 := (k3.at g7 hT2.2.1.1 hT2.2.2 hT2f).1
  have hC3 := R3.keep _ _ hC
  refine hG ?_
  obtain ⟨h3, g, d, tk, os⟩ := s3
  refine wpAny_excMatches_sub_self hC3 E3 g2.1 hbase (codeAny_handlers_suite ?_)
  have fl3 : Heap.FlyingW (butH h3 ([e, T2] ++ C.fr)) (f.env :: outer) e (.ref a) a0 h3 :=
    ⟨butH_stays _ _, by rw [butH_get, if_pos (by simp)], fun_frames (hl_of R3) hall, ⟨oe, vs, T2, oT2, ts2, E3, g2, g3, g4, by rw [butH_get, if_pos (by simp)], g6, T3, g8, g9⟩⟩
  refine lands_againW fl3 fun h4 hh4 u4 => ?_
  have hex2 : ∀ y ∈ [e, T2], H3 y = none ∧ C.h₀.get? y = none := by
    intro y hy
    simp only [List.mem_cons, List.not_mem_nil, or_false] at hy
    rcases hy with rfl | rfl
    · exact hed
    · exact hT2.2.1
  have L4 : LandX C [e, T2] h3 h4 := .of_slots hh4.1 u4
  have R4 : Rel C H3 ⟨h4, g, d, tk, os⟩ := L4.rel (s := ⟨h3, g, d, tk, os⟩) (tk := tk) R3 hex2
  refine h _ _ _ R4 (L4.frame F3) ?_ ⟨st3.gens, st3.os⟩
  intro b o be bT hb Hb hn
  obtain ⟨o1, q1, q2, q3⟩ := L2.kept R b o (by simp [be, bT]) hb
  obtain ⟨⟨o2, p1, p2, p3⟩, Hb2⟩ := k3 b o1 q1 Hb hn
  have hb2 : b ≠ T2 := by
    rintro rfl
    rcases hT2.1 with h | h | h
    · exact bT h
    · exact be h
    · rw [h] at hb; cases hb
  obtain ⟨o3, r1, r2, r3⟩ := L4.kept R3 b o2 (by simp [be, hb2]) p1
  exact ⟨o3, r1, r2.trans (p2.trans q2), fun hf => (r3 hf).trans ((p3 hf).trans (q3 hf))⟩
end

section
variable {α β : Type} {C : Cx} {A : Around} {E : Value → Shared → Prop} {f : Fm} {L : Loc} {H : AH}
noncomputable def bmVE : List Value := [.type "ValueError", .type "Exception", .type "BaseException", .type "object"]
noncomputable def ExcAt (C : Cx) (c : Addr) : Prop := ∃ nm q N bs hdct sn sub ab col dd k0 k1 k2 k3 k5 mN, C.h₀.get? c = some (excClassObj nm q c N bs bmVE hdct sn sub ab col dd k0 k1 k2 k3 k5 "ValueError.__new__") ∧ C.h₀.Ns N mN ∧ mN "__init__" = none
theorem exc55 (X : Ctx C) : ExcAt C 55 := by
  refine ⟨_, _, _, _, _, _, _, _, _, _, _, _, _, _, _, nsOf (hd07.heap_1 C.w.params) 54, X.O.kin _ _ (X.look rfl), ?_, ?_⟩
  · exact ⟨_, _, _, X.O.kin _ _ (X.look rfl), rfl, strKeys_of rfl, fun _ => rfl⟩
  · kernel_rfl
theorem EW.cstr {k : Nat} {p : Pos} {x : Str} {Q : Value → Loc → AH → Prop} (h : Q (.str x 0) L H) : EW C A E f (.Constant (.str x) k p) L H Q :=
  fun s R F => wpAny_Constant_str ⟨L, H, R.toks _, F, .refl, ⟨rfl, rfl⟩, h⟩
theorem EW.joined1 {e : Expr} {p : Pos} {Q : Value → Loc → AH → Prop} (h : EW C A E f e L H Q) : EW C A E f (.JoinedStr [e] p) L H Q :=
  fun s R F => JoinedStr_one (h s R F)
theorem raiseX {c : Addr} (hc : ExcAt C c) (hA : AF C A f) (hh : A.handled = none) {x : Str} {np cpos pos : Pos} {a1 : Expr} {as : List Expr} {s0 s : Shared} {H0 : AH} (R : Rel C H s) (F : FrOk C f L H s.heap) (K : Kept C.fr f.ow H0 H s0.heap s.heap) (St : Still s0 s)
    {X : Addr → Addr → AH → Heap → Prop} {Q : Flow → Shared → Prop}
    (hs : (a1 :: as).any isStar = false)
    (hn : ∀ E', EW C A E' f (.Name x np) L H fun v L1 H1 => v = .ref c ∧ L1 = L ∧ H1 = H)
    (ha : ∀ E', AW C A E' f cpos (a1 :: as) L H fun vs L1 H1 => vs.length ≤ 10 ∧ L1 = L ∧ H1 = H)
    (h : ∀ e T h', Flew C (.ref c) e T H h' → X e T H h') :
    wpAny (model C.prog C.w) A (exec (.Raise (some (.Call (.Name x np) (a1 :: as) [] cpos)) none pos) f.env) Q (fun e s' => wpAny (model C.prog C.w) A (leaving f.env e) (fun _ s2 => TX C f H0 s0 X e s2) nx s') s := by
  obtain ⟨nm, q, N, bs, hdct, sn, sub, ab, col, dd, k0, k1, k2, k3, k5, mN, hC, hN, hi⟩ := hc
  have h1 : isStar a1 = false := by
    rw [List.any_cons] at hs
    cases e : isStar a1 with
    | false => rfl
    | true => rw [e] at hs; cases hs
  have hst : ∀ (l : List Expr), l.any isStar = false → (backTo cpos (starEach l f.env)).any (·.1) = false := by
    intro l
    induction l with
    | nil => intro _; rfl
    | cons a l ih =>
      intro hl
      rw [List.any_cons, Bool.or_eq_false_iff] at hl
      rw [starEach_plain _ hl.1]
      show (false || (backTo cpos (starEach l f.env)).any (·.1)) = false
      rw [Bool.false_or]; exact ih hl.2
  refine wpAny_Raise_call_sub (C := c) (nm := nm) (q := q) (N := N) (bs := bs) (hdct := hdct) (sn := sn) (sub := sub) (ab := ab) (col := col) (dd := dd) (k0 := k0) (k1 := k1) (k2 := k2) (k3 := k3) (k5 := k5) PySem.F.excBase_ValueError hh (hst _ hs) hi ?_
  refine wpAny_mono (hn _ s R F) (fun v s1 ⟨L1, H1, R1, F1, k1', st1, hv, e1, e2⟩ => ?_) fun _ _ e => e
  subst e1; subst e2
  refine ⟨er_ref hv, ?_⟩
  rw [starEach_plain _ h1]
  refine Calls.evalArgs_plain ?_
  have ha := ha (fun e s' => wpAny (model C.prog C.w) A (leaving f.env e) (fun _ s2 => TX C f H0 s0 X e s2) nx s')
  unfold AW at ha
  rw [starEach_plain _ h1] at ha
  refine wpAny_mono (ha s1 R1 F1) (fun vs s2 ⟨L2, H2, R2, F2, k2', st2, hl, e1, e2⟩ => ?_) fun _ _ e => e
  subst e1; subst e2
  rw [List.length_map] at hl
  refine ⟨rfl, Nat.le_trans hl (by decide), R2.keep _ _ hC, hN.keeps R2.keep, fun h' e hm => ?_⟩
  have K2 := K.trans (k1'.trans k2')
  refine leaves_made hA F2 R2 hm fun s' R' F' k' st' ne T nT fl => ?_
  have nw : ∀ b, s2.heap.get? b = none → Nw H0 s0.heap b := by
    intro b hb o ho Hb
    by_cases hm : b ∈ f.ow
    · exact (F2.ne hb).2.2 hm
    · obtain ⟨⟨o', q1, _⟩, _⟩ := K2 b o ho Hb hm
      rw [hb] at q1; cases q1
  exact ⟨e, T, _, rfl, R', K2.trans k', St.trans (st1.trans (st2.trans st')), nw e ne, nw T nT, h _ _ _ fl⟩
end

section
variable {α β : Type} {C : Cx} {A : Around} {E : Value → Shared → Prop} {f : Fm} {L : Loc} {H : AH}
theorem PC.fnPX {k : Nat} {fa : Addr} {oc : Value} {od : Option Addr} {osl : Array (Option Value)} {fd : FuncData} {body : List Stmt} {vals : List Value} {Q : Value → AH → Prop} {X : Addr → Addr → AH → Heap → Prop} (binds : List (Str × Value)) (O : C.Ok) (hA : AIn C A (k + 1))
    (hl : C.K.lookup fa = some ⟨oc, od, .func fd, osl⟩) (hcd : codeIn C.K fd.code fd.qualname = true)
    (hbody : fd.body = .stmts body) (hclo : fd.closure = []) (hgl : fd.globals = mainGlobals) (hbi : fd.builtins = builtinsNs)
    (hfree : (fd.scope.names.all fun x => x.2 != .free) = true)
    (hco : fd.scope.isCoroutine = false) (hgen : fd.scope.isGenerator = false) (hk : fd.scope.kind = .function)
    (hb : bindArgs fd ⟨vals, []⟩ = pure binds) (hbk : (binds.all fun x => kindOk fd x.1) = true)
    (h : ∀ L f A' s1, (C.push L).Ok → Frame f fd.scope.names → AIn (C.push L) A' k → AF (C.push L) A' f → Rel (C.push L) H s1 → FrOk (C.push L) f (locB (binds.map fun b => (b.1, er b.2)) noL) H s1.heap →
      wpAny (model (C.push L).prog (C.push L).w) A' (execs body f.env) (TO (C.push L) f H s1 fun fl _ H2 => Q (er (retV fl)) H2) (fun e s' => wpAny (model (C.push L).prog (C.push L).w) A' (leaving f.env e) (fun _ s2 => TX (C.push L) f H s1 X e s2) nx s') s1) {s : Shared} (R : Rel C H s) :
    codeAny (model C.prog C.w) A (.call (.ref fa) ⟨vals, []⟩) (fun r s' => CO C H s (fun v H' => Q (er v) H') r s' ∨ XO C H s X r s') s := by
  have key : ∀ L s1, Rel (C.push L) H s1 → FrOk (C.push L) (fnFm fd L fa) (loc0 binds) H s1.heap → wpAny (model C.prog C.w) (A.deeper (callEnvC fd L fa)) (execs body (callEnvC fd L fa))
      (TO (C.push L) (fnFm fd L fa) H s1 fun fl _ H2 => Q (er (retV fl)) H2) (fun e s' => wpAny (model C.prog C.w) (A.deeper (callEnvC fd L fa)) (leaving (callEnvC fd L fa) e) (fun _ s2 => TX (C.push L) (fnFm fd L fa) H s1 X e s2) nx s') s1 := by
    intro L s1 R1 F1
    rw [loc0_eq] at F1
    obtain ⟨l, hl1, hl2⟩ := hA.fr
    refine h L (fnFm fd L fa) (A.deeper (callEnvC fd L fa)) s1 O.push (frame_fn hk) ⟨hA.hd, ?_, ?_, ⟨callEnvC fd L fa :: l, ?_, ?_⟩⟩ ⟨l, ?_, ?_, rfl, List.mem_cons_self⟩ R1 F1
    · show A.depth + 1 + k ≤ 900
      have := hA.dp; lia
    · show A.units + 3 + 10 * k ≤ 9000
      have := hA.un; lia
    · show A.frames.map (callEnvC fd L fa :: ·) = _
      rw [hl1]; rfl
    · intro env henv
      rcases List.mem_cons.mp henv with rfl | henv
      · refine ⟨?_, L, List.mem_cons_self, rfl⟩
        show fd.scope.kind ≠ .module
        rw [hk]; decide
      · obtain ⟨h1, L', h2, h3⟩ := hl2 env henv
        exact ⟨h1, L', List.mem_cons_of_mem _ h2, h3⟩
    · show A.frames.map (callEnvC fd L fa :: ·) = _
      rw [hl1]; rfl
    · intro env henv
      obtain ⟨h1, L', h2, h3⟩ := hl2 env henv
      exact ⟨h1, L', List.mem_cons_of_mem _ h2, h3⟩
  refine PC.fnX (body := body) O (Nat.lt_of_le_of_lt (Nat.le_trans (Nat.le_add_right _ _) hA.dp) (by decide)) (O.kin _ _ hl) rfl (codeRec_of O.kin hcd) (by rw [hb]; exact PW.pure ⟨hbk, key⟩) hbody hclo hgl hbi (fun x hx => ?_) hco hgen hk R
  have := List.all_eq_true.mp hfree x hx
  simpa using this
theorem stepX {st : Stmt} {rest : List Stmt} {s0 s : Shared} {H0 : AH} {Q : Flow → Shared → Prop} (R : Rel C H s) (F : FrOk C f L H s.heap) (K : Kept C.fr f.ow H0 H s0.heap s.heap) (St : Still s0 s) (P : Loc → AH → Prop)
    (h : XW C A nx f st L H fun fl L1 H1 => fl = .next ∧ P L1 H1)
    (next : ∀ s2 L1 H1, Rel C H1 s2 → FrOk C f L1 H1 s2.heap → Kept C.fr f.ow H0 H1 s0.heap s2.heap → Still s0 s2 → P L1 H1 → wpAny (model C.prog C.w) A (execs rest f.env) Q E s2) :
    wpAny (model C.prog C.w) A (execs (st :: rest) f.env) Q E s := by
  show wpAny _ _ (do match ← exec st f.env with | .next => execs rest f.env | fl => pure fl) _ _ s
  refine wpAny_bind (wpAny_mono (h s R F) (fun fl s2 ⟨L1, H1, R1, F1, k1, st1, e, p⟩ => ?_) fun _ _ e => e.elim)
  subst e
  exact next s2 L1 H1 R1 F1 (K.trans k1) (St.trans st1) p
theorem lastIfX {t : Expr} {b o : List Stmt} {p : Pos} {s0 s : Shared} {H0 : AH} {Q : Flow → Shared → Prop} (R : Rel C H s) (F : FrOk C f L H s.heap) (K : Kept C.fr f.ow H0 H s0.heap s.heap) (St : Still s0 s) (P : Loc → AH → Prop)
    (h : BW C A nx f t L H fun c L1 H1 => c = true ∧ P L1 H1)
    (next : ∀ s2 L1 H1, Rel C H1 s2 → FrOk C f L1 H1 s2.heap → Kept C.fr f.ow H0 H1 s0.heap s2.heap → Still s0 s2 → P L1 H1 → wpAny (model C.prog C.w) A (execs b f.env) (fun fl s => wpAny (model C.prog C.w) A (match fl with | .next => execs [] f.env | fl => pure fl : Sem Flow) Q E s) E s2) :
    wpAny (model C.prog C.w) A (execs [.If t b o p] f.env) Q E s := by
  show wpAny _ _ (do match ← exec (.If t b o p) f.env with | .next => execs [] f.env | fl => pure fl) _ _ s
  refine wpAny_bind ?_
  show wpAny _ _ (do standAt p; if ← isTrue t f.env (eval t f.env) then execs b f.env else execs o f.env) _ _ s
  refine wpAny_bind (wpAny_standAt (wpAny_bind (wpAny_mono (h s R F) (fun c s2 ⟨L1, H1, R1, F1, k1, st1, e, p⟩ => ?_) fun _ _ e => e.elim)))
  subst e
  exact next s2 L1 H1 R1 F1 (K.trans k1) (St.trans st1) p
theorem oneX {st : Stmt} {s : Shared} {Q : Flow → Shared → Prop} (h : wpAny (model C.prog C.w) A (exec st f.env) (fun fl s2 => False) E s) : wpAny (model C.prog C.w) A (execs [st] f.env) Q E s := by
  show wpAny _ _ (do match ← exec st f.env with | .next => execs [] f.env | fl => pure fl) _ _ s
  exact wpAny_bind (wpAny_mono h (fun _ _ x => x.elim) fun _ _ e => e)
end

section
variable {C : Cx} {A : Around} {E : Value → Shared → Prop} {H H0 : AH} {a d0 d r : Addr} {ep : Nat} {N : List Nd} {rdy : List Int} {rd : Value} {p q : Int} {f : Fm} {L : Loc}
set_option genInjectivity false in
structure Bad (C : Cx) (a d0 d : Addr) (ep : Nat) (N : List Nd) (H : AH) (e T : Addr) (H' : AH) (h : Heap) : Prop where
  fl : Flew C (.ref 55) e T H' h
  ex : ∃ r, H r = none ∧ Opn H' a d0 d ep r N (rdy0 (N.map pv)) 0 0
  old : ∀ b o, H b = some o → b ≠ a → H' b = some o
set_option maxHeartbeats 2000000 in
theorem prepareBad (X : Ctx C) {k : Nat} (hA : AIn C A (k + 2)) (S : Srt H a d0 d ep N .none 0 0) (hcl : ∀ n ∈ N, ∀ s ∈ n.su, s ∈ N.map (·.v)) (hbd : Bd (N.map pv) 1000) (hinc : ¬ ∀ n ∈ N, ∀ s ∈ n.su, n.v < s) {Z : List Int} (hZ : ∀ z ∈ Z, ∃ n ∈ N, n.v = z ∧ ∃ s ∈ n.su, s ∈ Z) (hZn : Z ≠ []) {s : Shared} (R : Rel C H s) :
    codeAny (model C.prog C.w) A (.call (.ref 92) ⟨[.ref a], []⟩) (XO C H s (Bad C a d0 d ep N H)) s := by
  refine codeAny_mono (PC.fnPX (Q := fun _ _ => False) (X := Bad C a d0 d ep N H) [("self", .ref a)] X.O hA (X.look rfl) (by walk_at "kk") rfl rfl rfl rfl rfl rfl rfl rfl rfl rfl ?_ R) (fun r s' h => h.elim (fun ⟨_, _, _, _, _, _, q⟩ => q.elim) id)
  intro L f A' s1 O' FS hA' hF R1 F1
  have X' := X.push L
  simp only [locB, List.map_cons, List.map_nil, List.foldl_cons, List.foldl_nil] at F1
  refine stepX R1 F1 .refl .refl (fun L1 H1 => L1 "self" = some (.ref a) ∧ H = H1) ?_ ?_
  · walk_at "ww"
    refine P1.attr (cls137 X') S.inst rfl rfl rfl (by walk_at "tl") fun v ev => ?_
    rw [ev]
    walk_at "ww"
    refine P2.isNotNone ⟨_, rfl, ?_⟩
    refine SW.nil ?_
    exact ⟨rfl, by walk_at "wloc", rfl⟩
  rintro s2 L2 H2 R2 F2 K2 St2 ⟨hL2, rfl⟩
  clear R1 F1
  refine stepX R2 F2 K2 St2 (fun L1 H1 => L1 "self" = some (.ref a) ∧ ∃ r, An3 (H r = none) (Opn H1 a d0 d ep r N (rdy0 (N.map pv)) 0 0) (∀ b o, H b = some o → b ≠ a → H1 b = some o)) ?_ ?_
  · walk_at "ww"
    refine EW.lcompJ FS.c rfl rfl (fun _ _ => rfl) ?_
    walk_at "ww"
    refine P1.attr (cls137 X') S.inst rfl rfl rfl (by walk_at "tl") fun v ev => ?_
    rw [ev]
    refine MethP.dict S.dict F.slot_dict_values F.type_dict_values ?_
    walk_at "ww"
    refine ⟨KeepOk.builtin, CallP.dvalues S.dict fun vw hvw => ?_⟩
    have hd1 : upd H vw (.obj (viewObj "dict_values" d)) d = some (.dict (n2i N) ep) := upd_fresh hvw _ _ S.dict
    refine ⟨_, _, ⟨upd_self .., hd1⟩, IterP.values hA'.hd, by simpa [n2i] using S.sz, fun H' g => ⟨g _ _ (upd_self ..), g _ _ hd1⟩, fun r hr => ⟨fun us ys _ => ∃ M : List Nd, us = M.map (fun n => .ref n.a) ∧ (∀ n ∈ M, n ∈ N) ∧ ys ++ ivs (rdy0 (M.map pv)) = ivs (rdy0 (N.map pv)), ⟨N, by simp [n2i], fun _ h => h, rfl⟩, fun _ _ _ _ _ h => h, ?_, ?_⟩⟩
    · rintro f' u us ys L2 H2 FC g hl hu _ ⟨M, e, hM, j⟩
      cases M with
      | nil => cases e
      | cons m M =>
        cases e
        have hm : m ∈ N := hM m List.mem_cons_self
        have hn2 : H2 m.a = some (ndObj m) := g _ _ (upd_fresh hvw _ _ (S.node m hm))
        refine IfsW.one ?_
        walk_at "ww"
        refine P1.slot (p := 42) (i := 1) O' hn2 (by walk_at "kk") (by walk_at "kk") (fun od => by walk_at "kk") (by walk_at "kk") rfl rfl fun v ev => ?_
        rw [ev]
        walk_at "ww"
        refine P2.eq ⟨_, rfl, ?_⟩
        have hpv : pv m = (m.v, m.np, m.su) := rfl
        have hM' : ∀ n ∈ M, n ∈ N := fun n hn => hM n (List.mem_cons_of_mem _ hn)
        cases e0 : (m.np == 0) with
        | false =>
          refine ite_f ⟨rfl, .refl, M, rfl, hM', ?_⟩
          rw [← j, List.map_cons]
          have : decide (m.np = 0) = false := by simpa using e0
          simp [rdy0, hpv, this]
        | true =>
          refine ite_t ?_
          walk_at "ww"
          refine P1.slot (p := 41) (i := 0) O' hn2 (by walk_at "kk") (by walk_at "kk") (fun od => by walk_at "kk") (by walk_at "kk") rfl rfl fun v ev => ?_
          rw [ev]
          refine ⟨rfl, .refl, M, rfl, hM', ?_⟩
          rw [← j, List.map_cons]
          have : decide (m.np = 0) = true := by simpa using e0
          simp [rdy0, hpv, this, ivs]
    · rintro ys H1 g1 hr1 ⟨M, e, _, j⟩
      cases M with
      | cons _ _ => cases e
      | nil =>
        have j : ys = ivs (rdy0 (N.map pv)) := by simpa [rdy0, ivs] using j
        subst j
        have g2 : Ge H H1 := (Ge.upd hvw).trans g1
        have hr0 : H r = none := by
          cases e : H r with
          | none => rfl
          | some o => rw [(Ge.upd hvw) r o e] at hr; cases hr
        walk_at "ww"
        intro o' v' eo ev'
        have eo := er_ref eo; subst eo
        refine setAttr_inst (cls137 X') (g2 _ _ S.inst) rfl (by walk_at "tl") (show 4 ≤ 1000 by decide) ?_
        rw [ev']
        have hra : r ≠ a := ne_of_none' S.inst hr0
        have k1 : ∀ b o, H b = some o → b ≠ a → upd H1 a (.inst 137 d0 (flds d (.ref r) 0 0) []) b = some o := fun b o hb hn => (upd_ne _ _ hn).trans (g2 _ _ hb)
        have hdn : d ≠ a := ne_of_obj S.dict S.inst (by simp)
        have hna : ∀ n ∈ N, n.a ≠ a := fun n hn e => by have h1 := S.node n hn; rw [e, S.inst] at h1; simp [ndObj] at h1
        have hsa : ∀ n ∈ N, n.s ≠ a := fun n hn => ne_of_obj (S.list n hn) S.inst (by simp)
        have S2 : Srt (upd H1 a (.inst 137 d0 (flds d (.ref r) 0 0) [])) a d0 d ep N (.ref r) 0 0 :=
          ⟨upd_self .., k1 _ _ S.dict hdn, fun n hn => k1 _ _ (S.node n hn) (hna n hn), fun n hn => k1 _ _ (S.list n hn) (hsa n hn), S.nv, S.na, S.ns, S.sz⟩
        have O2 : Opn (upd H1 a (.inst 137 d0 (flds d (.ref r) 0 0) [])) a d0 d ep r N (rdy0 (N.map pv)) 0 0 :=
          ⟨S2, (upd_ne _ _ hra).trans hr1, fun n hn e => by have := S.list n hn; rw [e, hr0] at this; cases this⟩
        exact ⟨rfl, by walk_at "wloc", r, hr0, O2, k1⟩
  rintro s3 L3 H3 R3 F3 K3 St3 ⟨hL3, r, hr, O3, old3⟩
  refine stepX R3 F3 K3 St3 (fun L1 H1 => ∃ c ys, An5 (L1 "cycle" = some (.ref c)) (ys ≠ []) (ys.length ≤ 2000) (H1 c = some (.list ys)) (Ge H3 H1)) ?_ ?_
  · walk_at "ww"
    refine MethP.inst (fa := 127) (y := none) (cls137 X') O3.s.inst rfl (X'.O.kin _ _ (X'.look rfl)) rfl (by walk_at "tl") rfl ?_
    walk_at "ww"
    refine ⟨KeepOk.known O' (by walk_at "kk") ⟨_, rfl⟩, CallP.fn fun vs' ev => ?_⟩
    obtain ⟨v1, rfl, ev1⟩ := map1 ev
    cases er_ref ev1
    refine PC.mono (findCycle (Q := fun v H' => ∃ c ys, An5 (v = .ref c) (ys ≠ []) (ys.length ≤ 2000) (H' c = some (.list ys)) (Ge H3 H')) X' hA' O3.s hcl hbd (Z := Z) hZ ?_ ?_) ?_
    · intro hz; exact absurd hz hZn
    · intro _ c ys H' h1 h2 h3 h4
      exact ⟨c, ys, rfl, h1, h2, h3, h4⟩
    · rintro v H4 ⟨c, ys, e1, e2, e3, e4, e5⟩
      rw [e1]
      walk_at "ww"
      exact ⟨rfl, c, ys, by walk_at "wloc", e2, e3, e4, e5⟩
  rintro s4 L4 H4 R4 F4 K4 St4 ⟨c, ys, hc, hys, hyl, hcl4, g4⟩
  refine lastIfX R4 F4 K4 St4 (fun L1 H1 => L4 = L1 ∧ H4 = H1) ?_ ?_
  · walk_at "ww"
    refine P1.truthy_list hcl4 (by omega) ?_
    refine ⟨?_, rfl, rfl⟩
    cases ys with
    | nil => exact absurd rfl hys
    | cons _ _ => rfl
  rintro s5 L5 H5 R5 F5 K5 St5 ⟨rfl, rfl⟩
  refine oneX ?_
  refine raiseX (exc55 X') hF hA'.hd R5 F5 K5 St5 rfl (fun E' => ?_) (fun E' => ?_) ?_
  · walk_at "ww"
    exact ⟨rfl, rfl, rfl⟩
  · refine AW.cons (EW.joined1 (EW.cstr ?_)) rfl
    walk_at "ww"
    exact ⟨show 2 ≤ 10 by decide, rfl, rfl⟩
  · intro e T h' fl
    exact ⟨⟨fl.he, fl.hT, fl.oT, fl.tr⟩, ⟨r, hr, O3.mono fun b o hb _ => g4 b o hb⟩, fun b o hb hn => g4 _ _ (old3 b o hb hn)⟩
end

section
variable {C : Cx} {A : Around} {E : Value → Shared → Prop} {H H0 H' : AH} {a d0 d r : Addr} {ep : Nat} {N : List Nd} {p q : Int} {f : Fm} {L : Loc} {g : Int → List Int} {js : List Int} {F : Addr → Prop} {rdy U D : List Int}
set_option genInjectivity false in
structure Wg (g : Int → List Int) (js : List Int) (F : Addr → Prop) (a d0 d : Addr) (ep : Nat) (r : Addr) (H : AH) (rdy U D : List Int) : Prop where
  ex : Ex3 fun N p q => An4 (Opn H a d0 d ep r N rdy p q) (SI g (· ∈ js) (N.map pv) rdy U D p q) (∀ b, F b ↔ FootR a d r N b) (Bd (N.map pv) 1000)
theorem SI.lnG {P : Pd} (S : SI g (· ∈ js) P rdy U D p q) : (ky P).length ≤ js.length := nodup_len S.nd fun x hx => (S.keys x).mp hx
theorem Wg.si (W : Wg g js F a d0 d ep r H rdy U D) : ∃ P p q, SI g (· ∈ js) P rdy U D p q :=
  let ⟨N, p, q, _, S, _, _⟩ := W.ex; ⟨_, p, q, S⟩
theorem Wg.mono (W : Wg g js F a d0 d ep r H rdy U D) (h : ∀ b o, H b = some o → F b → H' b = some o) : Wg g js F a d0 d ep r H' rdy U D := by
  obtain ⟨N, p, q, O, S, e, b⟩ := W.ex
  exact ⟨⟨N, p, q, O.mono fun b o hb hf => h b o hb ((e b).mpr hf), S, e, b⟩⟩
theorem Wg.ge (W : Wg g js F a d0 d ep r H rdy U D) (h : Ge H H') : Wg g js F a d0 d ep r H' rdy U D := W.mono fun b o hb _ => h b o hb
theorem Wg.fresh (W : Wg g js F a d0 d ep r H rdy U D) {b : Addr} (hb : H b = none) : ¬ F b := by
  obtain ⟨N, p, q, O, S, e, bd⟩ := W.ex
  intro h
  obtain ⟨o, ho⟩ := O.live ((e b).mp h)
  rw [hb] at ho; cases ho
theorem Wg.inst (W : Wg g js F a d0 d ep r H rdy U D) : ∃ p q, H a = some (.inst 137 d0 (flds d (.ref r) p q) []) :=
  let ⟨_, p, q, O, _, _, _⟩ := W.ex; ⟨p, q, O.s.inst⟩
theorem Wg.len (W : Wg g js F a d0 d ep r H rdy U D) : rdy.length ≤ js.length ∧ D.length ≤ js.length := by
  obtain ⟨N, p, q, O, S, e, b⟩ := W.ex
  exact ⟨Nat.le_trans S.len S.lnG, Nat.le_trans S.lenD S.lnG⟩
theorem c_readyG (X : Ctx C) {k : Nat} (hA : AIn C A (k + 1)) (hn5 : js.length ≤ 1000) (W : Wg g js F a d0 d ep r H rdy U D) {Q : Value → AH → Prop}
    (h : ∀ t H', H t = none → H' t = some (.tuple (ivs rdy)) → ¬ F t → Wg g js F a d0 d ep r H' [] (U ++ rdy) D → Fx F H H' → Q (.ref t) H') : CallP C A E (.ref 99) [.ref a] H Q :=
  CallP.fn fun vs' ev => by
    obtain ⟨v1, rfl, ev1⟩ := map1 ev
    cases er_ref ev1
    have hl := W.len
    have hf := @Wg.fresh _ _ _ _ _ _ _ _ _ _ _ _ W
    obtain ⟨N, p, q, O, S, e, bd⟩ := W.ex
    have hm : ∀ i ∈ rdy, i ∈ N.map (·.v) := fun i hi => by
      have := (S.keys i).mpr ((S.rd i).mp hi).1
      unfold ky at this
      rwa [pv_fst] at this
    refine getReady X hA O hm (Nat.le_trans hl.1 hn5) ?_
    intro t N' H' O' ep' sn fr ht ht' nt
    have fe : ∀ b, F b ↔ FootR a d r N' b := fun b => by rw [e b, sn.foot]
    refine h t H' ht ht' (hf ht) ⟨⟨N', _, _, O', ?_, fe, ?_⟩⟩ fun b o hb hn => (fr b o hb fun h => hn ((e b).mpr h)).1
    · rw [ep']; exact S.ready
    · rw [ep']; exact Bd.out bd
theorem donesG (X : Ctx C) {k : Nat} (hA : AIn C A (k + 1)) (hn5 : js.length ≤ 1000) (hirr : ∀ j, j ∈ js → j ∉ g j) (W : Wg g js F a d0 d ep r H rdy U D) {is U' : List Int} {vs : List Value} (hvs : vs.map er = ivs is) (hp : U.Perm (is ++ U')) {Q : Value → AH → Prop}
    (h : ∀ rdy' H', Wg g js F a d0 d ep r H' rdy' U' (is.reverse ++ D) → Fx F H H' → Q .none H') :
    PC C A (.call (.ref 120) ⟨.ref a :: vs, []⟩) H fun v H' => Q (er v) H' := by
  obtain ⟨N, p, q, O, S, e, bd⟩ := W.ex
  obtain ⟨ok, hz, S'⟩ := SI.dones hirr is S hp
  have hln := S.lnG
  have hil : is.length ≤ 1000 := by
    have h1 := S'.lenD
    have h2 := S'.lnG
    simp only [List.length_append, List.length_reverse] at h1
    lia
  refine doneOk' X hA O hvs ok (fun js hj => Nat.le_trans (hz js hj) (Nat.le_trans hln hn5)) bd hil ?_
  intro N' rdy' H' O' ee sn fr
  have e1 : N'.map pv = (is.foldl doneP1 (N.map pv, rdy)).1 := congrArg Prod.fst ee
  have e2 : rdy' = (is.foldl doneP1 (N.map pv, rdy)).2 := congrArg Prod.snd ee
  have fe : ∀ b, F b ↔ FootR a d r N' b := fun b => by rw [e b, sn.foot]
  refine h rdy' H' ⟨⟨N', _, _, O', ?_, fe, ?_⟩⟩ fun b o hb hn => (fr b o hb fun h => hn ((e b).mpr h)).1
  · rw [e1, e2]; exact S'
  · rw [e1]; exact Bd.dones (st := (N.map pv, rdy)) bd
theorem c_doneG (X : Ctx C) {k : Nat} (hA : AIn C A (k + 1)) (hn5 : js.length ≤ 1000) (hirr : ∀ j, j ∈ js → j ∉ g j) (W : Wg g js F a d0 d ep r H rdy U D) {x : Int} {U' : List Int} (hp : U.Perm (x :: U')) {Q : Value → AH → Prop}
    (h : ∀ rdy' H', Wg g js F a d0 d ep r H' rdy' U' (x :: D) → Fx F H H' → Q .none H') : CallP C A E (.ref 120) [.ref a, .int x 0] H Q :=
  CallP.fn fun vs' ev => by
    obtain ⟨v1, v2, rfl, ev1, ev2⟩ := map2 ev
    cases er_ref ev1
    exact donesG X hA hn5 hirr W (is := [x]) (U' := U') (vs := [v2]) (by simp [ev2, ivs]) hp h
theorem c_donesG (X : Ctx C) {k : Nat} (hA : AIn C A (k + 1)) (hn5 : js.length ≤ 1000) (hirr : ∀ j, j ∈ js → j ∉ g j) (W : Wg g js F a d0 d ep r H rdy U D) {m : Addr} (hm : H m = some (.obj (methodObj (.ref 120) (.ref a)))) {is U' : List Int} (hp : U.Perm (is ++ U')) {Q : Value → AH → Prop}
    (h : ∀ rdy' H', Wg g js F a d0 d ep r H' rdy' U' (is.reverse ++ D) → Fx F H H' → Q .none H') : CallP C A E (.ref m) (ivs is) H Q :=
  CallP.meth hm fun args' ea => donesG X hA hn5 hirr W (is := is) (U' := U') ea hp h
theorem c_activeG (X : Ctx C) {k : Nat} (hA : AIn C A (k + 1)) (hn5 : js.length ≤ 1000) (W : Wg g js F a d0 d ep r H rdy U D) {Q : Value → AH → Prop}
    (h : Q (.bool (!U.isEmpty || !rdy.isEmpty)) H) : CallP C A E (.ref 106) [.ref a] H Q :=
  CallP.fn fun vs' ev => by
    obtain ⟨v1, rfl, ev1⟩ := map1 ev
    cases er_ref ev1
    have hl := W.len
    obtain ⟨N, p, q, O, S, e, bd⟩ := W.ex
    refine isActive X hA O (Nat.le_trans hl.1 hn5) ?_
    have : decide (q < p) = !U.isEmpty := by
      rw [S.pq]
      cases U with
      | nil => simp
      | cons x U => simp; lia
    rw [this]; exact h
theorem initNone (X : Ctx C) {k : Nat} (hA : AIn C A (k + 1)) (ha : H a = some (.inst 137 d0 [] [])) {Q : AH → Prop}
    (h : ∀ d H', Srt H' a d0 d 0 [] .none 0 0 → (∀ b o, H b = some o → b ≠ a → H' b = some o ∧ ¬ Foot a d [] b) → Q H') :
    PC C A (.call (.ref 73) ⟨[.ref a], []⟩) H fun v H' => v = .none ∧ Q H' := by
  have key : PC C A (.call (.ref 73) ⟨[.ref a], []⟩) H fun v H' => (fun w H' => w = .none ∧ Q H') (er v) H' := by
    refine PC.fnK (Q := fun w H' => w = .none ∧ Q H') X.O hA (X.look rfl) (by walk_at "kk") rfl rfl rfl rfl rfl rfl rfl rfl ?_
    intro s R
    have hd := R.keep _ _ (X.O.kin 66 _ (X.look rfl))
    refine wpAny_bind (wpAny_pure ?_)
    refine wpAny_bind (wpAny_seqItems hd rfl ?_)
    refine wpAny_is (t' := (pure [("self", Value.ref a), ("graph", Value.none)] : Sem (List (Str × Value)))) ?_ (wpAny_pure ?_)
    · kernel_rfl
    refine ⟨H, R, .refl, .refl, rfl, ?_⟩
    intro L f A' O' FS hA' hF
    have X' := X.push L
    simp only [locB, List.map_cons, List.map_nil, List.foldl_cons, List.foldl_nil]
    refine SW.hide fun RR hRR => ?_
    walk_at "ww"
    intro d hd
    have hda : d ≠ a := ne_of_none' ha hd
    walk_at "ww"
    intro o' v' eo ev'
    have eo := er_ref eo; subst eo
    refine setAttr_inst (cls137 X') ((upd_ne _ _ hda.symm).trans ha) rfl (by walk_at "tl") (show 0 ≤ 1000 by decide) ?_
    rw [ev']
    walk_at "ww"
    intro o' v' eo ev'
    have eo := er_ref eo; subst eo
    refine setAttr_inst (cls137 X') (upd_self ..) rfl (by walk_at "tl") (show 1 ≤ 1000 by decide) ?_
    rw [ev', upd_upd]
    walk_at "ww"
    intro o' v' eo ev'
    have eo := er_ref eo; subst eo
    refine setAttr_inst (cls137 X') (upd_self ..) rfl (by walk_at "tl") (show 2 ≤ 1000 by decide) ?_
    rw [ev', upd_upd]
    walk_at "ww"
    intro o' v' eo ev'
    have eo := er_ref eo; subst eo
    refine setAttr_inst (cls137 X') (upd_self ..) rfl (by walk_at "tl") (show 3 ≤ 1000 by decide) ?_
    rw [ev', upd_upd]
    change SW _ _ _ _ _ _ (upd (upd H d (.dict [] 0)) a (.inst 137 d0 (flds d .none 0 0) [])) _
    have S1 : Srt (upd (upd H d (.dict [] 0)) a (.inst 137 d0 (flds d .none 0 0) [])) a d0 d 0 [] .none 0 0 :=
      ⟨upd_self .., (upd_ne _ _ hda).trans (upd_self ..), by simp, by simp, by simp, by simp, by simp, by simp⟩
    have E1 : ∀ b o, H b = some o → b ≠ a → upd (upd H d (.dict [] 0)) a (.inst 137 d0 (flds d .none 0 0) []) b = some o ∧ ¬ Foot a d [] b := by
      intro b o hb hne
      have hbd : b ≠ d := (ne_of_none' hb hd).symm
      refine ⟨(upd_ne _ _ hne).trans ((upd_ne _ _ hbd).trans hb), ?_⟩
      rintro (rfl | rfl | ⟨n, hn, _⟩)
      · exact hne rfl
      · exact hbd rfl
      · cases hn
    walk_at "ww"
    refine P2.isNotNone ⟨_, rfl, ?_⟩
    refine SW.nil ?_
    walk_at "ww"
    exact hRR _ _ _ ⟨rfl, h d _ S1 E1⟩
  exact key.mono fun v H' q => ⟨er_none q.1, q.2⟩
set_option genInjectivity false in
structure Sg (H0 H : AH) (a d0 d : Addr) (G : List (Int × List Int)) : Prop where
  ex : Ex2 fun (N : List Nd) (ep : Nat) => An3 (Srt H a d0 d ep N .none 0 0) (N.map pv = foldA G []) (∀ b o, H0 b = some o → H b = some o ∧ ¬ Foot a d N b)
theorem c_new (X : Ctx C) {k : Nat} (hA : AIn C A (k + 3)) {Q : Value → AH → Prop} (h : ∀ a d0 d H', Sg H H' a d0 d [] → Q (.ref a) H') : CallP C A E (.ref 137) [] H Q := by
  refine CallP.make (fI := 73) X.O (by walk_at "kk") (by walk_at "kk") (by walk_at "kk") fun args' ea na nd hna hnd hne => ?_
  have : args' = [] := by simpa using ea
  subst this
  have hA2 : AIn C A (k + 1 + 2) := hA
  have g1 : Ge H (upd (upd H nd (.hid na)) na (.inst 137 nd [] [])) := (Ge.upd hnd).trans (.upd (by rw [upd_ne _ _ hne]; exact hna))
  refine initNone X hA2.make (upd_self ..) fun d H' S E => h na nd d H' ⟨[], 0, S, rfl, fun b o hb => E b o (g1 _ _ hb) (by first | exact no_some (hna) hb | exact (no_some (hna) hb).symm | exact no_some hb (hna) | exact (no_some hb (hna)).symm | exact two_ne (hna) hb (by intro q; cases q; done) | exact (two_ne (hna) hb (by intro q; cases q; done)).symm | (rintro rfl; rw [hna] at hb; cases hb))⟩
theorem Sg.old {G : List (Int × List Int)} (S : Sg H0 H a d0 d G) : Ge H0 H := let ⟨_, _, _, _, k⟩ := S.ex; fun b o hb => (k b o hb).1
theorem Sg.fresh {G : List (Int × List Int)} (S : Sg H0 H a d0 d G) {b : Addr} {o : AO} (hb : H b = none) : Sg H0 (upd H b o) a d0 d G := by
  obtain ⟨N, ep, S1, e, k⟩ := S.ex
  refine ⟨N, ep, S1.keep fun c x hc _ => upd_fresh hb c x hc, e, fun c x hc => ⟨upd_fresh hb c x (k c x hc).1, (k c x hc).2⟩⟩
theorem Sg.inst {G : List (Int × List Int)} (S : Sg H0 H a d0 d G) : H a = some (.inst 137 d0 (flds d .none 0 0) []) := let ⟨_, _, S1, _, _⟩ := S.ex; S1.inst
theorem addG (X : Ctx C) {k : Nat} (hA : AIn C A (k + 5)) {G : List (Int × List Int)} (S : Sg H0 H a d0 d G) {i : Int} {t : Tok} {ps : List Int} {ps' : List Value} (hps : ps'.map er = ivs ps) (hsz : szA G + ps.length < 900) {Q : Value → AH → Prop}
    (h : ∀ H', Sg H0 H' a d0 d (G ++ [(i, ps)]) → Q .none H') : PC C A (.call (.ref 87) ⟨.ref a :: .int i t :: ps', []⟩) H fun v H' => Q (er v) H' := by
  obtain ⟨N, ep, S1, e, k1⟩ := S.ex
  have hl := foldA_len G []
  have hb := foldA_bd G (P := []) (K := 0) fun x hx => by cases hx
  rw [← e, List.length_map, List.length_nil] at hl
  rw [← e] at hb
  refine PC.mono (addOk2 X hA S1 hps (by lia) hb (by lia)) ?_
  rintro v H' ⟨ev, N', ep', S', hp', E'⟩
  rw [ev]
  refine h H' ⟨N', ep', S', ?_, fun b o hb => E' b o (k1 b o hb).1 (k1 b o hb).2⟩
  rw [hp', e]
  simp [foldA]
theorem c_addM (X : Ctx C) {k : Nat} (hA : AIn C A (k + 5)) {G : List (Int × List Int)} (S : Sg H0 H a d0 d G) {m : Addr} (hm : H m = some (.obj (methodObj (.ref 87) (.ref a)))) {i : Int} {ps : List Int} (hsz : szA G + ps.length < 900) {Q : Value → AH → Prop}
    (h : ∀ H', Sg H0 H' a d0 d (G ++ [(i, ps)]) → Q .none H') : CallP C A E (.ref m) (.int i 0 :: ivs ps) H Q :=
  CallP.meth hm fun args' ea => by
    obtain ⟨v1, ps', rfl, ev1, eps⟩ : ∃ v1 ps', args' = v1 :: ps' ∧ er v1 = .int i 0 ∧ ps'.map er = ivs ps := by
      cases args' with
      | nil => cases ea
      | cons v1 ps' =>
        obtain ⟨e1, e2⟩ := List.cons.inj ea
        exact ⟨v1, ps', rfl, e1, e2⟩
    obtain ⟨t1, rfl⟩ := er_int ev1
    exact addG X hA S eps hsz h
theorem c_addF (X : Ctx C) {k : Nat} (hA : AIn C A (k + 5)) {G : List (Int × List Int)} (S : Sg H0 H a d0 d G) {i j : Int} (hsz : szA G + 1 < 900) {Q : Value → AH → Prop}
    (h : ∀ H', Sg H0 H' a d0 d (G ++ [(i, [j])]) → Q .none H') : CallP C A E (.ref 87) [.ref a, .int i 0, .int j 0] H Q :=
  CallP.fn fun vs' ev => by
    obtain ⟨v1, v2, v3, rfl, ev1, ev2, ev3⟩ := map3 ev
    cases er_ref ev1
    obtain ⟨t2, rfl⟩ := er_int ev2
    exact addG X hA S (ps := [j]) (ps' := [v3]) (by simp [ev3, ivs]) hsz h
end

noncomputable def vF (rc : Int → List (Int × Int)) (o : Int → Int) : Nat → Int → Int
  | 0, _ => 0
  | n + 1, t => o t + ((rc t).map fun p => p.2 * vF rc o n p.1).sum
set_option genInjectivity false in
structure RcOk (rc : Int → List (Int × Int)) : Prop where
  lt : ∀ t, 0 ≤ t → t < 6 → ∀ p ∈ rc t, 0 ≤ p.1 ∧ p.1 < t
  sg : ∀ t, 0 ≤ t → t < 6 → ∀ p ∈ rc t, p.2 = 1 ∨ p.2 = -1
  len : ∀ t, 0 ≤ t → t < 6 → (rc t).length ≤ 10
noncomputable def val (rc : Int → List (Int × Int)) (o : Int → Int) (t : Int) : Int := vF rc o 6 t
theorem vF_stable {rc : Int → List (Int × Int)} (R : RcOk rc) (o : Int → Int) : ∀ (n m : Nat) (t : Int), 0 ≤ t → t < 6 → t < n → t < m → vF rc o n t = vF rc o m t
  | 0, _, t, h0, _, h, _ => absurd (Int.lt_of_le_of_lt h0 h) (by decide)
  | _ + 1, 0, t, h0, _, _, h => absurd (Int.lt_of_le_of_lt h0 h) (by decide)
  | n + 1, m + 1, t, h0, h6, hn, hm => by
    unfold vF
    congr 2
    refine List.map_congr_left fun p hp => ?_
    have hl := R.lt t h0 h6 p hp
    rw [vF_stable R o n m p.1 hl.1 (by lia) (by lia) (by lia)]
theorem val_eq {rc : Int → List (Int × Int)} (R : RcOk rc) (o : Int → Int) {t : Int} (h0 : 0 ≤ t) (h6 : t < 6) : val rc o t = o t + ((rc t).map fun p => p.2 * val rc o p.1).sum := by
  show vF rc o (5 + 1) t = _
  unfold vF
  congr 2
  refine List.map_congr_left fun p hp => ?_
  have hl := R.lt t h0 h6 p hp
  rw [vF_stable R o 5 6 p.1 hl.1 (by lia) (by lia) (by lia)]
  rfl
noncomputable def parts (rc : Int → List (Int × Int)) (o : Int → Int) (t : Int) : List Int := o t :: (rc t).map fun p => p.2 * val rc o p.1
theorem parts_sum {rc : Int → List (Int × Int)} (R : RcOk rc) (o : Int → Int) {t : Int} (h0 : 0 ≤ t) (h6 : t < 6) : (parts rc o t).sum = val rc o t := by
  rw [val_eq R o h0 h6]; rfl
inductive Lead (rc : Int → List (Int × Int)) : Int → Int → Prop
  | one {a t s : Int} : (a, s) ∈ rc t → Lead rc a t
  | far {a b t s : Int} : Lead rc a b → (b, s) ∈ rc t → Lead rc a t
noncomputable def hF (W : List Int) (c : Int → Bool) (ld : Int → Int → Bool) : Nat → Int → Int
  | 0, _ => 0
  | n + 1, t => ((W.filter fun a => c a && ld a t).map (hF W c ld n)).foldl max (-1) + 1
noncomputable def hr (W : List Int) (c : Int → Bool) (ld : Int → Int → Bool) (t : Int) : Int := hF W c ld 6 t
theorem foldl_max_le {k : Int} : ∀ (l : List Int) (b : Int), b ≤ k → (∀ x ∈ l, x ≤ k) → l.foldl max b ≤ k
  | [], b, hb, _ => hb
  | x :: l, b, hb, h => foldl_max_le l _ (Int.max_le.mpr ⟨hb, h x List.mem_cons_self⟩) fun y hy => h y (List.mem_cons_of_mem _ hy)
theorem le_foldl_max : ∀ (l : List Int) (b : Int), b ≤ l.foldl max b ∧ ∀ x ∈ l, x ≤ l.foldl max b
  | [], b => ⟨Int.le_refl _, fun x hx => by cases hx⟩
  | x :: l, b => by
    obtain ⟨h1, h2⟩ := le_foldl_max l (max b x)
    refine ⟨Int.le_trans (Int.le_max_left ..) h1, fun y hy => ?_⟩
    rcases List.mem_cons.mp hy with rfl | hy
    · exact Int.le_trans (Int.le_max_right ..) h1
    · exact h2 y hy
section
variable {W : List Int} {c : Int → Bool} {ld : Int → Int → Bool}
theorem hF_stable (hW : ∀ t ∈ W, 0 ≤ t) (hl : ∀ a t, ld a t = true → a < t) : ∀ (n m : Nat) (t : Int), 0 ≤ t → t < n → t < m → hF W c ld n t = hF W c ld m t
  | 0, _, t, h0, h, _ => absurd (Int.lt_of_le_of_lt h0 h) (by decide)
  | _ + 1, 0, t, h0, _, h => absurd (Int.lt_of_le_of_lt h0 h) (by decide)
  | n + 1, m + 1, t, h0, hn, hm => by
    unfold hF
    congr 2
    refine List.map_congr_left fun a ha => ?_
    obtain ⟨h1, h2⟩ := List.mem_filter.mp ha
    have h3 := hl a t (Bool.and_eq_true_iff.mp h2).2
    exact hF_stable hW hl n m a (hW a h1) (by lia) (by lia)
theorem hr_eq (hW : ∀ t ∈ W, 0 ≤ t) (hl : ∀ a t, ld a t = true → a < t) {t : Int} (h0 : 0 ≤ t) (h6 : t < 6) : hr W c ld t = ((W.filter fun a => c a && ld a t).map (hr W c ld)).foldl max (-1) + 1 := by
  show hF W c ld (5 + 1) t = _
  unfold hF
  congr 2
  refine List.map_congr_left fun a ha => ?_
  obtain ⟨h1, h2⟩ := List.mem_filter.mp ha
  have h3 := hl a t (Bool.and_eq_true_iff.mp h2).2
  exact hF_stable hW hl 5 6 a (hW a h1) (by lia) (by lia)
theorem hr_ge (hW : ∀ t ∈ W, 0 ≤ t) (hl : ∀ a t, ld a t = true → a < t) {t : Int} (h0 : 0 ≤ t) (h6 : t < 6) : 0 ≤ hr W c ld t := by
  rw [hr_eq hW hl h0 h6]
  have := (le_foldl_max ((W.filter fun a => c a && ld a t).map (hr W c ld)) (-1)).1
  lia
theorem hr_lt (hW : ∀ t ∈ W, 0 ≤ t) (hl : ∀ a t, ld a t = true → a < t) {a t : Int} (h0 : 0 ≤ t) (h6 : t < 6) (ha : a ∈ W) (hc : c a = true) (h : ld a t = true) : hr W c ld a + 1 ≤ hr W c ld t := by
  rw [hr_eq hW hl h0 h6 (t := t)]
  have := (le_foldl_max ((W.filter fun a => c a && ld a t).map (hr W c ld)) (-1)).2 (hr W c ld a) (List.mem_map.mpr ⟨a, List.mem_filter.mpr ⟨ha, by rw [hc, h]; rfl⟩, rfl⟩)
  lia
theorem hr_le (hW : ∀ t ∈ W, 0 ≤ t) (hl : ∀ a t, ld a t = true → a < t) {t k : Int} (h0 : 0 ≤ t) (h6 : t < 6) (hk : 0 ≤ k) (h : ∀ a ∈ W, c a = true → ld a t = true → hr W c ld a + 1 ≤ k) : hr W c ld t ≤ k := by
  rw [hr_eq hW hl h0 h6]
  have := foldl_max_le ((W.filter fun a => c a && ld a t).map (hr W c ld)) (-1) (k := k - 1) (by lia) fun x hx => by
    obtain ⟨a, ha, rfl⟩ := List.mem_map.mp hx
    obtain ⟨h1, h2⟩ := List.mem_filter.mp ha
    obtain ⟨h3, h4⟩ := Bool.and_eq_true_iff.mp h2
    have := h a h1 h3 h4
    lia
  lia
theorem hr_uniq (hW : ∀ t ∈ W, 0 ≤ t) (hl : ∀ a t, ld a t = true → a < t) {t m : Int} (h0 : 0 ≤ t) (h6 : t < 6) {xs : List Int} (hm : m = xs.foldl max (-1) + 1) (hx : ∀ x, x ∈ xs ↔ ∃ a ∈ W, c a = true ∧ ld a t = true ∧ x = hr W c ld a) : m = hr W c ld t := by
  subst hm
  refine Int.le_antisymm ?_ ?_
  · have := foldl_max_le xs (-1) (k := hr W c ld t - 1) (by have := hr_ge (c := c) hW hl h0 h6; lia) fun x h => by
      obtain ⟨a, h1, h2, h3, rfl⟩ := (hx x).mp h
      have := hr_lt hW hl h0 h6 h1 h2 h3
      lia
    lia
  · have hf := le_foldl_max xs (-1)
    refine hr_le hW hl h0 h6 (by lia) fun a h1 h2 h3 => ?_
    have := hf.2 _ ((hx _).mpr ⟨a, h1, h2, h3, rfl⟩)
    lia
end
theorem sum_swap {α β : Type} (f : α → β → Int) (l : List α) : ∀ (m : List β), (l.map fun a => (m.map fun b => f a b).sum).sum = (m.map fun b => (l.map fun a => f a b).sum).sum
  | [] => by
    induction l with
    | nil => rfl
    | cons a l ih => simpa using ih
  | b :: m => by
    have h := sum_swap f l m
    simp only [List.map_cons, List.sum_cons]
    rw [← h]
    clear h
    induction l with
    | nil => rfl
    | cons a l ih => simp only [List.map_cons, List.sum_cons]; rw [ih]; lia
theorem sum_mul (x : Int) : ∀ l : List Int, (l.map fun y => x * y).sum = x * l.sum
  | [] => by simp
  | y :: l => by simp only [List.map_cons, List.sum_cons]; rw [sum_mul x l, Int.mul_add]
set_option genInjectivity false in
structure WaysOk (rc : Int → List (Int × Int)) (w : Int → Int → Int) : Prop where
  eq : ∀ s t, 0 ≤ s → s < 6 → 0 ≤ t → t < 6 → w s t = (if t = s then 1 else 0) + ((rc t).map fun p => p.2 * w s p.1).sum
noncomputable def six : List Int := [0, 1, 2, 3, 4, 5]
theorem mem_six {t : Int} : t ∈ six ↔ 0 ≤ t ∧ t < 6 := by
  rw [show six = jl 6 from rfl]; exact mem_jl
theorem pick_sum (o : Int → Int) (t : Int) : ∀ l : List Int, l.Nodup → t ∈ l → (l.map fun s => o s * (if t = s then 1 else 0)).sum = o t ∧ ∀ m : List Int, t ∉ m → (m.map fun s => o s * (if t = s then 1 else 0)).sum = 0 := by
  have z : ∀ m : List Int, t ∉ m → (m.map fun s => o s * (if t = s then 1 else 0)).sum = 0 := by
    intro m
    induction m with
    | nil => intro _; rfl
    | cons x m ih =>
      intro h
      rw [List.map_cons, List.sum_cons, ih fun q => h (List.mem_cons_of_mem _ q), if_neg fun q : t = x => h (q ▸ List.mem_cons_self), Int.mul_zero]; rfl
  intro l
  induction l with
  | nil => intro _ h; cases h
  | cons x l ih =>
    intro nd h
    rw [List.nodup_cons] at nd
    refine ⟨?_, z⟩
    rw [List.map_cons, List.sum_cons]
    rcases List.mem_cons.mp h with e | h
    · subst e
      rw [if_pos rfl, Int.mul_one, z l nd.1, Int.add_zero]
    · rw [if_neg fun q : t = x => nd.1 (q ▸ h), Int.mul_zero, (ih nd.2 h).1, Int.zero_add]
theorem six_pick (o : Int → Int) {t : Int} (h : t ∈ six) : (six.map fun s => o s * (if t = s then 1 else 0)).sum = o t := (pick_sum o t six (by decide) h).1
theorem ways_val {rc : Int → List (Int × Int)} {w : Int → Int → Int} (R : RcOk rc) (Wy : WaysOk rc w) (o : Int → Int) : ∀ (n : Nat) (t : Int), 0 ≤ t → t < 6 → t < n → (six.map fun s => o s * w s t).sum = val rc o t
  | 0, t, h0, _, h => absurd (Int.lt_of_le_of_lt h0 h) (by decide)
  | n + 1, t, h0, h6, hn => by
    rw [val_eq R o h0 h6]
    have e1 : (six.map fun s => o s * w s t) = six.map fun s => o s * (if t = s then 1 else 0) + ((rc t).map fun p => p.2 * (o s * w s p.1)).sum := by
      refine List.map_congr_left fun s hs => ?_
      obtain ⟨s0, s6⟩ := mem_six.mp hs
      rw [Wy.eq s t s0 s6 h0 h6, Int.mul_add]
      congr 1
      rw [← sum_mul, List.map_map]
      congr 1
      refine List.map_congr_left fun p _ => ?_
      show o s * (p.2 * w s p.1) = _
      rw [← Int.mul_assoc, ← Int.mul_assoc, Int.mul_comm (o s) p.2]
    rw [e1]
    have add : ∀ (f g : Int → Int) (l : List Int), (l.map fun s => f s + g s).sum = (l.map f).sum + (l.map g).sum := by
      intro f g l
      induction l with
      | nil => rfl
      | cons a l ih => simp only [List.map_cons, List.sum_cons]; rw [ih]; lia
    rw [add, six_pick o (mem_six.mpr ⟨h0, h6⟩), sum_swap]
    congr 2
    refine List.map_congr_left fun p hp => ?_
    have hl := R.lt t h0 h6 p hp
    have ih := ways_val R Wy o n p.1 hl.1 (by lia) (by lia)
    rw [← ih, ← sum_mul, List.map_map]
    rfl
theorem parts_same {rc : Int → List (Int × Int)} {w : Int → Int → Int} (R : RcOk rc) (Wy : WaysOk rc w) (o u : Int → Int) {t : Int} (h0 : 0 ≤ t) (h6 : t < 6) :
    parts rc u t = parts rc o t ↔ (o t - u t = 0 ∧ ∀ p ∈ rc t, (six.map fun s => (o s - u s) * w s p.1).sum = 0) := by
  have lin : ∀ p ∈ rc t, (six.map fun s => (o s - u s) * w s p.1).sum = val rc o p.1 - val rc u p.1 := by
    intro p hp
    have hl := R.lt t h0 h6 p hp
    rw [← ways_val R Wy o 6 p.1 hl.1 (by lia) (by lia), ← ways_val R Wy u 6 p.1 hl.1 (by lia) (by lia)]
    have : ∀ l : List Int, (l.map fun s => (o s - u s) * w s p.1).sum = (l.map fun s => o s * w s p.1).sum - (l.map fun s => u s * w s p.1).sum := by
      intro l
      induction l with
      | nil => rfl
      | cons a l ih => simp only [List.map_cons, List.sum_cons]; rw [ih, Int.sub_mul]; lia
    exact this six
  unfold parts
  rw [List.cons.injEq]
  constructor
  · rintro ⟨h1, h2⟩
    refine ⟨by lia, fun p hp => ?_⟩
    rw [lin p hp]
    have h3 := List.map_inj_left.mp h2 p hp
    rcases R.sg t h0 h6 p hp with e | e <;> rw [e] at h3 <;> lia
  · rintro ⟨h1, h2⟩
    refine ⟨by lia, List.map_congr_left fun p hp => ?_⟩
    have h3 := h2 p hp
    rw [lin p hp] at h3
    rw [show val rc u p.1 = val rc o p.1 by lia]

noncomputable def fset {α : Type} (f : Int → α) (t : Int) (x : α) : Int → α := fun j => if j = t then x else f j
theorem fset_same {α : Type} (f : Int → α) (t : Int) (x : α) : fset f t x t = x := if_pos rfl
theorem fset_ne {α : Type} (f : Int → α) {t j : Int} (x : α) (h : j ≠ t) : fset f t x j = f j := if_neg h
theorem six_set {α : Type} (f : Int → α) {t : Int} (x : α) (h0 : 0 ≤ t) (h6 : t < 6) : (six.map f).set t.toNat x = six.map (fset f t x) := by
  have : t ∈ six := mem_six.mpr ⟨h0, h6⟩
  unfold six at this
  simp only [List.mem_cons, List.not_mem_nil, or_false] at this
  rcases this with rfl | rfl | rfl | rfl | rfl | rfl <;> rfl
theorem six_get {α : Type} (f : Int → α) {t : Int} (h0 : 0 ≤ t) (h6 : t < 6) : (six.map f)[t.toNat]? = some (f t) := by
  have : t ∈ six := mem_six.mpr ⟨h0, h6⟩
  unfold six at this
  simp only [List.mem_cons, List.not_mem_nil, or_false] at this
  rcases this with rfl | rfl | rfl | rfl | rfl | rfl <;> rfl
noncomputable def gN (rc : Int → List (Int × Int)) (t : Int) : List Int := if t = 6 then [7] else if t = 7 then [6] else (rc t).map (·.1)
theorem gN_of {rc : Int → List (Int × Int)} {t : Int} (h6 : t < 6) : gN rc t = (rc t).map (·.1) := by
  unfold gN; rw [if_neg (by lia), if_neg (by lia)]
set_option genInjectivity false in
structure LdOk (rc : Int → List (Int × Int)) (ld : Int → Int → Bool) : Prop where
  lt : ∀ a t, ld a t = true → a < t
  eq : ∀ a t, 0 ≤ t → t < 6 → (ld a t = true ↔ ∃ p ∈ rc t, a = p.1 ∨ ld a p.1 = true)
set_option genInjectivity false in
structure BuildOk (rc : Int → List (Int × Int)) (ld : Int → Int → Bool) (W : List Int) (vs0 : Int → Int) (ss0 : Int → Option (List Int)) : Prop where
  R : RcOk rc
  L : LdOk rc ld
  r : ∀ t ∈ W, 0 ≤ t ∧ t < 6
  n : W.Nodup
  d : ∀ t ∈ W, ∀ p ∈ rc t, p.1 ∈ W
  s : ∀ t ∈ W, ∀ xs, ss0 t = some xs → vs0 t = xs.sum
noncomputable def chg (rc : Int → List (Int × Int)) (o : Int → Int) (ss0 : Int → Option (List Int)) (t : Int) : Bool := decide (ss0 t ≠ some (parts rc o t))
section
variable {rc : Int → List (Int × Int)} {ld : Int → Int → Bool} {o : Int → Int} {W : List Int} {vs0 : Int → Int} {ss0 : Int → Option (List Int)} {k : Int} {D ws : List Int} {vs : Int → Int} {ss : Int → Option (List Int)}
noncomputable abbrev hrB (rc : Int → List (Int × Int)) (ld : Int → Int → Bool) (o : Int → Int) (W : List Int) (ss0 : Int → Option (List Int)) : Int → Int := hr W (chg rc o ss0) ld
set_option genInjectivity false in
structure BI (rc : Int → List (Int × Int)) (ld : Int → Int → Bool) (o : Int → Int) (W : List Int) (vs0 : Int → Int) (ss0 : Int → Option (List Int)) (k : Int) (D ws : List Int) (vs : Int → Int) (ss : Int → Option (List Int)) : Prop where
  dn : ∀ t ∈ D, An5 (t ∈ W) (vs t = val rc o t) (ss t = some (parts rc o t)) (chg rc o ss0 t = true → hrB rc ld o W ss0 t < k) (hrB rc ld o W ss0 t ≤ k)
  wt : ∀ t ∈ ws, An5 (t ∈ W) (t ∉ D) (ss t = some (parts rc o t)) (chg rc o ss0 t = true) (hrB rc ld o W ss0 t = k)
  nt : ∀ t, t ∉ D → t ∉ ws → An3 (vs t = vs0 t) (ss t = ss0 t) (t ∈ W → k ≤ hrB rc ld o W ss0 t)
  k0 : 0 ≤ k
theorem BuildOk.w0 (B : BuildOk rc ld W vs0 ss0) : ∀ t ∈ W, 0 ≤ t := fun t ht => (B.r t ht).1
theorem BI.start (B : BuildOk rc ld W vs0 ss0) : BI rc ld o W vs0 ss0 0 [] [] vs0 ss0 :=
  ⟨by simp, by simp, fun t _ _ => ⟨rfl, rfl, fun ht => hr_ge B.w0 B.L.lt (B.r t ht).1 (B.r t ht).2⟩, by decide⟩
theorem BI.hand (B : BuildOk rc ld W vs0 ss0) (I : BI rc ld o W vs0 ss0 k D ws vs ss) {t : Int} (hj : t ∈ W ∨ t = 6 ∨ t = 7) (hD : t ∉ D) (hw : t ∉ ws) (hg : ∀ a ∈ gN rc t, a ∈ D) :
    An4 (t ∈ W) (o t :: (rc t).map (fun p => p.2 * vs p.1) = parts rc o t) (ss t = ss0 t) (hrB rc ld o W ss0 t = k) := by
  have hW : t ∈ W := by
    rcases hj with h | h | h
    · exact h
    · subst h
      have h7 := (I.dn 7 (hg 7 (by simp [gN]))).1
      have := B.r 7 h7
      lia
    · subst h
      have h6 := (I.dn 6 (hg 6 (by simp [gN]))).1
      have := B.r 6 h6
      lia
  obtain ⟨h0, h6⟩ := B.r t hW
  rw [gN_of h6] at hg
  have hn := I.nt t hD hw
  refine ⟨hW, ?_, hn.2, Int.le_antisymm ?_ (hn.3 hW)⟩
  · unfold parts
    congr 1
    refine List.map_congr_left fun p hp => ?_
    rw [(I.dn p.1 (hg p.1 (List.mem_map.mpr ⟨p, hp, rfl⟩))).2]
  · refine hr_le B.w0 B.L.lt h0 h6 I.k0 fun a ha hc hl => ?_
    obtain ⟨p, hp, h⟩ := (B.L.eq a t h0 h6).mp hl
    have hd := I.dn p.1 (hg p.1 (List.mem_map.mpr ⟨p, hp, rfl⟩))
    rcases h with rfl | h
    · have := hd.4 hc
      show hr W (chg rc o ss0) ld p.1 + 1 ≤ k
      exact this
    · obtain ⟨p0, p6⟩ := B.r p.1 hd.1
      have h1 := hr_lt B.w0 B.L.lt p0 p6 ha hc h
      have h2 : hr W (chg rc o ss0) ld p.1 ≤ k := hd.5
      exact Int.le_trans h1 h2
theorem BI.wait (I : BI rc ld o W vs0 ss0 k D ws vs ss) {t : Int} (hW : t ∈ W) (hD : t ∉ D) (hc : chg rc o ss0 t = true) (hk : hrB rc ld o W ss0 t = k) : BI rc ld o W vs0 ss0 k D (ws ++ [t]) vs (fset ss t (some (parts rc o t))) := by
  refine ⟨fun j hj => ?_, fun j hj => ?_, fun j h1 h2 => ?_, I.k0⟩
  · obtain ⟨x1, x2, x3, x4, x5⟩ := I.dn j hj
    exact ⟨x1, x2, by rw [fset_ne _ _ (by rintro rfl; exact hD hj)]; exact x3, x4, x5⟩
  · by_cases e : j = t
    · subst e; exact ⟨hW, hD, fset_same .., hc, hk⟩
    · have hj' : j ∈ ws := by
        rcases List.mem_append.mp hj with h | h
        · exact h
        · exact absurd (List.mem_singleton.mp h) e
      obtain ⟨x1, x2, x3, x4, x5⟩ := I.wt j hj'
      exact ⟨x1, x2, by rw [fset_ne _ _ e]; exact x3, x4, x5⟩
  · have e : j ≠ t := by rintro rfl; exact h2 (List.mem_append_right _ (List.mem_singleton.mpr rfl))
    have h3 : j ∉ ws := fun h => h2 (List.mem_append_left _ h)
    obtain ⟨x1, x2, x3⟩ := I.nt j h1 h3
    exact ⟨x1, by rw [fset_ne _ _ e]; exact x2, x3⟩
theorem chg_false {t : Int} (h : chg rc o ss0 t = false) : ss0 t = some (parts rc o t) := by
  unfold chg at h
  simpa using h
theorem BI.pass (B : BuildOk rc ld W vs0 ss0) (I : BI rc ld o W vs0 ss0 k D ws vs ss) {ps D' : List Int} (hD' : ∀ t, t ∈ D' ↔ t ∈ ps ∨ t ∈ D) (hp : ∀ t ∈ ps, An5 (t ∈ W) (t ∉ D) (t ∉ ws) (chg rc o ss0 t = false) (hrB rc ld o W ss0 t = k)) : BI rc ld o W vs0 ss0 k D' ws vs ss := by
  refine ⟨fun j hj => ?_, fun j hj => ?_, fun j h1 h2 => I.nt j (fun h => h1 ((hD' j).mpr (.inr h))) h2, I.k0⟩
  · rcases (hD' j).mp hj with h | h
    · obtain ⟨x1, x2, x3, x4, x5⟩ := hp j h
      obtain ⟨y1, y2, y3⟩ := I.nt j x2 x3
      obtain ⟨r0, r6⟩ := B.r j x1
      refine ⟨x1, ?_, ?_, fun hc => (by rw [x4] at hc; cases hc), Int.le_of_eq x5⟩
      · rw [y1, B.s j x1 _ (chg_false x4), parts_sum B.R o r0 r6]
      · rw [y2, chg_false x4]
    · exact I.dn j h
  · obtain ⟨x1, x2, x3, x4, x5⟩ := I.wt j hj
    refine ⟨x1, fun h => ?_, x3, x4, x5⟩
    rcases (hD' j).mp h with h | h
    · rw [(hp j h).4] at x4; cases x4
    · exact x2 h
theorem BI.chain (B : BuildOk rc ld W vs0 ss0) (I : BI rc ld o W vs0 ss0 k D ws vs ss) (hr0 : ∀ t ∈ W, t ∉ D → t ∉ ws → ∃ a ∈ gN rc t, a ∉ D) : ∀ (n : Nat) (t : Int), t < n → t ∈ W → t ∉ D → t ∉ ws → ∃ a ∈ ws, ld a t = true
  | 0, t, h, hW, _, _ => absurd (Int.lt_of_le_of_lt (B.r t hW).1 h) (by decide)
  | n + 1, t, h, hW, hD, hw => by
    obtain ⟨h0, h6⟩ := B.r t hW
    obtain ⟨a, ha, hn⟩ := hr0 t hW hD hw
    rw [gN_of h6] at ha
    obtain ⟨p, hp, rfl⟩ := List.mem_map.mp ha
    have hl := B.R.lt t h0 h6 p hp
    by_cases hpw : p.1 ∈ ws
    · exact ⟨p.1, hpw, (B.L.eq _ t h0 h6).mpr ⟨p, hp, .inl rfl⟩⟩
    · obtain ⟨b, hb, hbl⟩ := BI.chain B I hr0 n p.1 (by lia) (B.d t hW p hp) hn hpw
      exact ⟨b, hb, (B.L.eq _ t h0 h6).mpr ⟨p, hp, .inr hbl⟩⟩
theorem BI.hour (B : BuildOk rc ld W vs0 ss0) (I : BI rc ld o W vs0 ss0 k D ws vs ss) (hr0 : ∀ t ∈ W, t ∉ D → t ∉ ws → ∃ a ∈ gN rc t, a ∉ D) {D' : List Int} (hD' : ∀ t, t ∈ D' ↔ t ∈ ws ∨ t ∈ D) {vs' : Int → Int} (hv : ∀ t, vs' t = if t ∈ ws then val rc o t else vs t) : BI rc ld o W vs0 ss0 (k + 1) D' [] vs' ss := by
  refine ⟨fun j hj => ?_, by simp, fun j h1 _ => ?_, by have := I.k0; lia⟩
  · by_cases hw : j ∈ ws
    · obtain ⟨x1, x2, x3, x4, x5⟩ := I.wt j hw
      exact ⟨x1, by rw [hv, if_pos hw], x3, fun _ => by lia, by lia⟩
    · obtain ⟨x1, x2, x3, x4, x5⟩ := I.dn j (((hD' j).mp hj).resolve_left hw)
      exact ⟨x1, by rw [hv, if_neg hw]; exact x2, x3, fun hc => by have := x4 hc; lia, by lia⟩
  · have hw : j ∉ ws := fun h => h1 ((hD' j).mpr (.inl h))
    have hD : j ∉ D := fun h => h1 ((hD' j).mpr (.inr h))
    obtain ⟨x1, x2, x3⟩ := I.nt j hD hw
    refine ⟨by rw [hv, if_neg hw]; exact x1, x2, fun hW => ?_⟩
    obtain ⟨j0, j6⟩ := B.r j hW
    obtain ⟨a, ha, hl⟩ := BI.chain B I hr0 6 j j6 hW hD hw
    obtain ⟨y1, y2, y3, y4, y5⟩ := I.wt a ha
    have := hr_lt B.w0 B.L.lt j0 j6 y1 y4 hl
    have y5 : hr W (chg rc o ss0) ld a = k := y5
    rw [y5] at this
    exact this
theorem BI.all (B : BuildOk rc ld W vs0 ss0) (I : BI rc ld o W vs0 ss0 k D [] vs ss) (hr0 : ∀ t ∈ W, t ∉ D → t ∉ ([] : List Int) → ∃ a ∈ gN rc t, a ∉ D) : ∀ t ∈ W, t ∈ D := by
  intro t hW
  refine Classical.byContradiction fun hD => ?_
  obtain ⟨a, ha, _⟩ := BI.chain B I hr0 6 t (B.r t hW).2 hW hD (by simp)
  cases ha
set_option genInjectivity false in
structure Md (rc : Int → List (Int × Int)) (ld : Int → Int → Bool) (o : Int → Int) (W : List Int) (ss0 : Int → Option (List Int)) (D : List Int) (M : List (Int × Int)) : Prop where
  ex : ∃ T : List Int, An3 (M = T.map fun t => (hrB rc ld o W ss0 t, t)) T.Nodup (∀ t, t ∈ T ↔ t ∈ D ∧ chg rc o ss0 t = true)
theorem Md.hour {M : List (Int × Int)} (m : Md rc ld o W ss0 D M) (I : BI rc ld o W vs0 ss0 k D ws vs ss) (hn : ws.Nodup) {D' : List Int} (hD' : ∀ t, t ∈ D' ↔ t ∈ ws ∨ t ∈ D) : Md rc ld o W ss0 D' (M ++ ws.map fun t => (k, t)) := by
  obtain ⟨T, e, nd, ht⟩ := m.ex
  refine ⟨T ++ ws, ?_, ?_, fun t => ?_⟩
  · rw [e, List.map_append]
    congr 1
    refine List.map_congr_left fun t h => ?_
    rw [(I.wt t h).5]
  · refine List.nodup_append.mpr ⟨nd, hn, ?_⟩
    rintro x hx y hy rfl
    exact (I.wt x hy).2 ((ht x).mp hx).1
  · rw [List.mem_append, ht, hD']
    constructor
    · rintro (⟨h1, h2⟩ | h)
      · exact ⟨.inr h1, h2⟩
      · exact ⟨.inl h, (I.wt t h).4⟩
    · rintro ⟨h1 | h1, h2⟩
      · exact .inr h1
      · exact .inl ⟨h1, h2⟩
theorem Md.pass {M : List (Int × Int)} (m : Md rc ld o W ss0 D M) {ps D' : List Int} (hD' : ∀ t, t ∈ D' ↔ t ∈ ps ∨ t ∈ D) (hp : ∀ t ∈ ps, chg rc o ss0 t = false) : Md rc ld o W ss0 D' M := by
  obtain ⟨T, e, nd, ht⟩ := m.ex
  refine ⟨T, e, nd, fun t => ?_⟩
  rw [ht, hD']
  constructor
  · rintro ⟨h1, h2⟩; exact ⟨.inr h1, h2⟩
  · rintro ⟨h1 | h1, h2⟩
    · rw [hp t h1] at h2; cases h2
    · exact ⟨h1, h2⟩
theorem Md.len {M : List (Int × Int)} (m : Md rc ld o W ss0 D M) (h : ∀ t ∈ D, t ∈ W) : M.length ≤ W.length := by
  obtain ⟨T, e, nd, ht⟩ := m.ex
  rw [e, List.length_map]
  exact nodup_len nd fun t h1 => h t ((ht t).mp h1).1
end

section
open PySem.SeqAt PySem.MeetsSeq
noncomputable def sv : Option (Addr × List Int) → Value
  | none => .none
  | some p => .ref p.1
section
variable {C : Cx} {A : Around} {E : Value → Shared → Prop} {f : Fm} {L : Loc} {H : AH}
theorem P2.eqSeen {q : Option (Addr × List Int)} {b : Addr} {xs : List Int} {Q : Value → AH → Prop} (hu : A.units < cLine) (hq : ∀ p ys, q = some (p, ys) → H p = some (.list (ivs ys))) (hb : H b = some (.list (ivs xs))) (h : Q (.bool (decide (q.map (·.2) = some xs))) H) : P2 C A E (compareOp .Eq) (sv q) (.ref b) H Q := by
  cases q with
  | none =>
    intro a' b' ea eb s R
    rw [er_none ea]
    have e := er_ref eb; subst e
    obtain ⟨vs, n, e, q⟩ := R.rep b _ hb
    exact RcAt.none_list ⟨_, e, rfl, n, rfl⟩ hu C.prog C.w E _ (stay R h)
  | some p =>
    obtain ⟨p, ys⟩ := p
    refine P2.eqInts hu (hq p ys rfl) hb ?_
    have : decide ((some (p, ys) : Option (Addr × List Int)).map (·.2) = some xs) = decide (ys = xs) := by simp
    rw [this] at h; exact h
theorem P2.neTup0 {a b : Addr} {xs : List Value} {Q : Value → AH → Prop} (hu : A.units < cLine) (ha : H a = some (.tuple xs)) (hb : H b = some (.tuple [])) (h : Q (.bool (!xs.isEmpty)) H) : P2 C A E (compareOp .NotEq) (.ref a) (.ref b) H Q := by
  intro a' b' ea eb s R
  have e := er_ref ea; subst e
  have e := er_ref eb; subst e
  obtain ⟨vs, n, e, q⟩ := R.rep a _ ha
  obtain ⟨us, m, e2, q2⟩ := R.rep b _ hb
  have h1 := size_er q
  have h2 : us.size = 0 := by have := size_er q2; simpa using this
  have r1 := RcNeAt.tuples (A := A) (s := s) (e := fun _ => true) ⟨_, e, rfl, n, rfl⟩ ⟨_, e2, rfl, m, rfl⟩ hu (fun j j1 j2 => by lia)
  refine r1 C.prog C.w E _ (stay R ?_)
  rw [h1, h2]
  cases xs with
  | nil => exact h
  | cons x r => simpa using h
theorem P2.isNotBool {a b : Bool} {Q : Value → AH → Prop} (h : Q (.bool (a != b)) H) : P2 C A E (compareOp .IsNot) (.bool a) (.bool b) H Q := by
  intro a' b' ea eb s R
  have e := er_bool ea; subst e
  have e := er_bool eb; subst e
  refine wpAny_bind (wpAny_pure (wpAny_pure (stay R ?_)))
  have e : (!(Value.bool a == Value.bool b)) = (a != b) := by cases a <;> cases b <;> rfl
  rw [e]; exact h
end

end

set_option genInjectivity false in
structure Bc where
  va : Addr
  sa : Addr
  ma : Addr
  a : Addr
  d0 : Addr
  d : Addr
  r : Addr
  ep : Nat
  F : Addr → Prop
  g : Int → List Int
  js : List Int
  H0 : AH
  OK : Addr → Prop
noncomputable def Bc.mu (c : Bc) (ex : List Addr) : List Addr := c.va :: c.sa :: c.ma :: ex
theorem Bc.nd7 {c : Bc} {ex : List Addr} (h1 : (c.mu ex).Nodup) : An7 (c.va ≠ c.sa) (c.va ≠ c.ma) (c.va ∉ ex) (c.sa ≠ c.ma) (c.sa ∉ ex) (c.ma ∉ ex) ex.Nodup := by
  simp only [Bc.mu, List.nodup_cons, List.mem_cons, not_or] at h1
  exact ⟨h1.1.1, h1.1.2.1, h1.1.2.2, h1.2.1.1, h1.2.1.2, h1.2.2.1, h1.2.2.2⟩
theorem nm_ne {a b : Addr} {l : List Addr} (h : a ∉ l) (m : b ∈ l) : b ≠ a := fun e => h (e ▸ m)
theorem nd_two {a b : Addr} (h : [a, b].Nodup) : a ≠ b := fun e => (List.nodup_cons.mp h).1 (e ▸ List.mem_cons_self)
set_option genInjectivity false in
structure BS (c : Bc) (ex : List Addr) (kp : List (Addr × AO)) (H : AH) (rdy U D : List Int) (mt : List (Addr × Int × Int)) (vs : Int → Int) (sp : Int → Option (Addr × List Int)) : Prop where
  st : ∀ b o, c.H0 b = some o → b ≠ c.va → b ≠ c.sa → H b = some o
  hv : H c.va = some (.list (ivs (six.map vs)))
  hs : H c.sa = some (.list (six.map fun t => sv (sp t)))
  hp : ∀ t p xs, sp t = some (p, xs) → An3 (H p = some (.list (ivs xs))) (¬ c.F p) (p ∉ c.mu ex)
  W : Wg c.g c.js c.F c.a c.d0 c.d c.ep c.r H rdy U D
  hm : H c.ma = some (.list (mt.map fun m => .ref m.1))
  mtu : ∀ m ∈ mt, H m.1 = some (.tuple [.int m.2.1 0, .int m.2.2 0]) ∧ ¬ c.F m.1
  nF : ∀ x ∈ c.mu ex, ¬ c.F x
  nd : (c.mu ex).Nodup
  F0 : ∀ b, c.F b → c.H0 b = none
  e0 : ∀ x ∈ c.ma :: ex, c.H0 x = none
  al : ∀ x ∈ c.mu ex, ∃ xs, H x = some (.list xs)
  ks : ∀ q ∈ kp, An3 (H q.1 = some q.2) (¬ c.F q.1) (∀ xs, q.2 ≠ .list xs)
  hq : ∀ t p xs, sp t = some (p, xs) → c.OK p
  ok : ∀ b, c.H0 b = none → c.OK b
section
variable {c : Bc} {ex : List Addr} {kp : List (Addr × AO)} {H H' : AH} {rdy U D rdy' U' D' : List Int} {mt : List (Addr × Int × Int)} {vs vs' : Int → Int} {sp : Int → Option (Addr × List Int)} {w b x : Addr} {o : AO}
theorem BS.alive (B : BS c ex kp H rdy U D mt vs sp) {y : Addr} (hy : y ∈ c.mu ex) (hb : H b = none) : y ≠ b := by
  obtain ⟨xs, h⟩ := B.al y hy
  rintro rfl; rw [h] at hb; cases hb
theorem BS.keep (B : BS c ex kp H rdy U D mt vs sp) (k : ∀ b o, H b = some o → H' b = some o) : BS c ex kp H' rdy U D mt vs sp :=
  ⟨fun b o h1 h2 h3 => k _ _ (B.st b o h1 h2 h3), k _ _ B.hv, k _ _ B.hs, fun t p xs h => ⟨k _ _ (B.hp t p xs h).1, (B.hp t p xs h).2, (B.hp t p xs h).3⟩, B.W.ge k, k _ _ B.hm, fun m h => ⟨k _ _ (B.mtu m h).1, (B.mtu m h).2⟩, B.nF, B.nd, B.F0, B.e0, fun x h => let ⟨xs, e⟩ := B.al x h; ⟨xs, k _ _ e⟩, fun q h => ⟨k _ _ (B.ks q h).1, (B.ks q h).2, (B.ks q h).3⟩, B.hq, B.ok⟩
theorem BS.fresh (B : BS c ex kp H rdy U D mt vs sp) (hb : H b = none) : BS c ex kp (upd H b o) rdy U D mt vs sp := B.keep (upd_fresh hb)
theorem BS.addE (B : BS c ex kp H rdy U D mt vs sp) (hw : H w = none) (h0 : c.H0 w = none) (xs : List Value) : BS c (w :: ex) kp (upd H w (.list xs)) rdy U D mt vs sp := by
  have B' := B.fresh (o := .list xs) hw
  have hmem : ∀ y, y ∈ c.mu (w :: ex) ↔ y ∈ c.mu ex ∨ y = w := by
    intro y
    simp only [Bc.mu, List.mem_cons]
    constructor
    · rintro (h | h | h | h | h)
      · exact .inl (.inl h)
      · exact .inl (.inr (.inl h))
      · exact .inl (.inr (.inr (.inl h)))
      · exact .inr h
      · exact .inl (.inr (.inr (.inr h)))
    · rintro ((h | h | h | h) | h)
      · exact .inl h
      · exact .inr (.inl h)
      · exact .inr (.inr (.inl h))
      · exact .inr (.inr (.inr (.inr h)))
      · exact .inr (.inr (.inr (.inl h)))
  have nw : w ∉ c.mu ex := fun h => B.alive h hw rfl
  refine ⟨B'.st, B'.hv, B'.hs, fun t p xs h => ⟨(B'.hp t p xs h).1, (B'.hp t p xs h).2, fun hm => ?_⟩, B'.W, B'.hm, B'.mtu, fun y hy => ?_, ?_, B'.F0, fun y hy => ?_, fun y hy => ?_, B'.ks, B'.hq, B'.ok⟩
  · rcases (hmem p).mp hm with h1 | h1
    · exact (B'.hp t p xs h).3 h1
    · subst h1
      have := (B.hp t p xs h).1
      rw [hw] at this; cases this
  · rcases (hmem y).mp hy with h1 | h1
    · exact B.nF y h1
    · subst h1; exact B.W.fresh hw
  · have h1 := B.nd
    simp only [Bc.mu, List.nodup_cons, List.mem_cons, not_or] at h1 nw ⊢
    obtain ⟨⟨a1, a2, a3⟩, ⟨a4, a5⟩, a6, a7⟩ := h1
    obtain ⟨b1, b2, b3, b4⟩ := nw
    exact ⟨⟨a1, a2, Ne.symm b1, a3⟩, ⟨a4, Ne.symm b2, a5⟩, ⟨Ne.symm b3, a6⟩, b4, a7⟩
  · simp only [List.mem_cons] at hy
    rcases hy with h1 | h1 | h1
    · exact B.e0 y (by simp [h1])
    · rw [h1]; exact h0
    · exact B.e0 y (by simp [h1])
  · rcases (hmem y).mp hy with h1 | h1
    · exact B'.al y h1
    · subst h1; exact ⟨xs, upd_self ..⟩
theorem BS.setE (B : BS c ex kp H rdy U D mt vs sp) (hx : x ∈ ex) (xs : List Value) : BS c ex kp (upd H x (.list xs)) rdy U D mt vs sp := by
  have hxm : x ∈ c.mu ex := by simp only [Bc.mu, List.mem_cons]; exact .inr (.inr (.inr hx))
  obtain ⟨a1, a2, a3, a4, a5, a6, a7⟩ := Bc.nd7 B.nd
  have nv : c.va ≠ x := fun e => a3 (e ▸ hx)
  have ns : c.sa ≠ x := fun e => a5 (e ▸ hx)
  have nm : c.ma ≠ x := fun e => a6 (e ▸ hx)
  have h0 := B.e0 x (List.mem_cons_of_mem _ hx)
  obtain ⟨ys, hxl⟩ := B.al x hxm
  refine ⟨fun b o h2 h3 h4 => (upd_ne _ _ (by first | exact no_some (h0) h2 | exact (no_some (h0) h2).symm | exact no_some h2 (h0) | exact (no_some h2 (h0)).symm | exact two_ne (h0) h2 (by intro q; cases q; done) | exact (two_ne (h0) h2 (by intro q; cases q; done)).symm | (rintro rfl; rw [h0] at h2; cases h2))).trans (B.st b o h2 h3 h4), (upd_ne _ _ nv).trans B.hv, (upd_ne _ _ ns).trans B.hs, fun t p zs h => ⟨(upd_ne _ _ (by rintro rfl; exact (B.hp t _ zs h).3 hxm)).trans (B.hp t p zs h).1, (B.hp t p zs h).2, (B.hp t p zs h).3⟩,
    B.W.mono fun b o hb hf => (upd_ne _ _ (by rintro rfl; exact B.nF _ hxm hf)).trans hb, (upd_ne _ _ nm).trans B.hm, fun m h => ⟨(upd_ne _ _ (by rintro rfl; have := (B.mtu m h).1; rw [hxl] at this; cases this)).trans (B.mtu m h).1, (B.mtu m h).2⟩, B.nF, B.nd, B.F0, B.e0, fun y hy => ?_, fun q h => ⟨(upd_ne _ _ (by rintro rfl; have h2 := (B.ks q h).1; rw [hxl] at h2; exact (B.ks q h).3 _ (Option.some.inj h2).symm)).trans (B.ks q h).1, (B.ks q h).2, (B.ks q h).3⟩, B.hq, B.ok⟩
  by_cases e : y = x
  · subst e; exact ⟨xs, upd_self ..⟩
  · obtain ⟨zs, hz⟩ := B.al y hy
    exact ⟨zs, (upd_ne _ _ e).trans hz⟩
theorem BS.dropE (B : BS c (w :: ex) kp H rdy U D mt vs sp) : BS c ex kp H rdy U D mt vs sp := by
  have sub : ∀ y, y ∈ c.mu ex → y ∈ c.mu (w :: ex) := by
    intro y
    simp only [Bc.mu, List.mem_cons]
    rintro (h | h | h | h)
    · exact .inl h
    · exact .inr (.inl h)
    · exact .inr (.inr (.inl h))
    · exact .inr (.inr (.inr (.inr h)))
  have h1 := B.nd
  refine ⟨B.st, B.hv, B.hs, fun t p xs h => ⟨(B.hp t p xs h).1, (B.hp t p xs h).2, fun hm => (B.hp t p xs h).3 (sub _ hm)⟩, B.W, B.hm, B.mtu, fun y hy => B.nF y (sub y hy), ?_, B.F0, fun y hy => B.e0 y ?_, fun y hy => B.al y (sub y hy), B.ks, B.hq, B.ok⟩
  · simp only [Bc.mu, List.nodup_cons, List.mem_cons, not_or] at h1 ⊢
    obtain ⟨⟨a1, a2, b1, a3⟩, ⟨a4, b2, a5⟩, ⟨b3, a6⟩, b4, a7⟩ := h1
    exact ⟨⟨a1, a2, a3⟩, ⟨a4, a5⟩, a6, a7⟩
  · rcases List.mem_cons.mp hy with h | h
    · rw [h]; exact List.mem_cons_self
    · exact List.mem_cons_of_mem _ (List.mem_cons_of_mem _ h)
theorem BS.sort (B : BS c ex kp H rdy U D mt vs sp) (W' : Wg c.g c.js c.F c.a c.d0 c.d c.ep c.r H' rdy' U' D') (k : Fx c.F H H') : BS c ex kp H' rdy' U' D' mt vs sp :=
  ⟨fun b o h1 h2 h3 => k _ _ (B.st b o h1 h2 h3) fun hf => (by rw [B.F0 b hf] at h1; cases h1), k _ _ B.hv (B.nF _ (by simp [Bc.mu])), k _ _ B.hs (B.nF _ (by simp [Bc.mu])), fun t p xs h => ⟨k _ _ (B.hp t p xs h).1 (B.hp t p xs h).2, (B.hp t p xs h).2, (B.hp t p xs h).3⟩, W', k _ _ B.hm (B.nF _ (by simp [Bc.mu])),
    fun m h => ⟨k _ _ (B.mtu m h).1 (B.mtu m h).2, (B.mtu m h).2⟩, B.nF, B.nd, B.F0, B.e0, fun x h => let ⟨xs, e⟩ := B.al x h; ⟨xs, k _ _ e (B.nF x h)⟩, fun q h => ⟨k _ _ (B.ks q h).1 (B.ks q h).2, (B.ks q h).2, (B.ks q h).3⟩, B.hq, B.ok⟩
theorem BS.setV (B : BS c ex kp H rdy U D mt vs sp) (vs' : Int → Int) : BS c ex kp (upd H c.va (.list (ivs (six.map vs')))) rdy U D mt vs' sp := by
  obtain ⟨a1, a2, a3, a4, a5, a6, a7⟩ := Bc.nd7 B.nd
  have hxm : c.va ∈ c.mu ex := List.mem_cons_self
  refine ⟨fun b o h2 h3 h4 => (upd_ne _ _ h3).trans (B.st b o h2 h3 h4), upd_self .., (upd_ne _ _ (Ne.symm a1)).trans B.hs, fun t p zs h => ⟨(upd_ne _ _ (by rintro rfl; exact (B.hp t _ zs h).3 hxm)).trans (B.hp t p zs h).1, (B.hp t p zs h).2, (B.hp t p zs h).3⟩,
    B.W.mono fun b o hb hf => (upd_ne _ _ (by rintro rfl; exact B.nF _ hxm hf)).trans hb, (upd_ne _ _ (Ne.symm a2)).trans B.hm, fun m h => ⟨(upd_ne _ _ (by first | exact no_some ((B.mtu m h).1) (B.hv) | exact no_some (B.hv) ((B.mtu m h).1) | exact (no_some ((B.mtu m h).1) (B.hv)).symm | exact (no_some (B.hv) ((B.mtu m h).1)).symm | exact two_ne ((B.mtu m h).1) (B.hv) (by intro q; cases q; done) | exact (two_ne ((B.mtu m h).1) (B.hv) (by intro q; cases q; done)).symm | (intro e; have := (B.mtu m h).1; rw [e, B.hv] at this; cases this))).trans (B.mtu m h).1, (B.mtu m h).2⟩, B.nF, B.nd, B.F0, B.e0, fun y hy => ?_, fun q h => ⟨(upd_ne _ _ (by intro e; have h2 := (B.ks q h).1; rw [e, B.hv] at h2; exact (B.ks q h).3 _ (Option.some.inj h2).symm)).trans (B.ks q h).1, (B.ks q h).2, (B.ks q h).3⟩, B.hq, B.ok⟩
  by_cases e : y = c.va
  · subst e; exact ⟨_, upd_self ..⟩
  · obtain ⟨zs, hz⟩ := B.al y hy
    exact ⟨zs, (upd_ne _ _ e).trans hz⟩
theorem BS.setS (B : BS c ex kp H rdy U D mt vs sp) {t : Int} {p : Addr} {xs : List Int} (hp : H p = some (.list (ivs xs))) (hF : ¬ c.F p) (hm : p ∉ c.mu ex) (hok : c.OK p) : BS c ex kp (upd H c.sa (.list (six.map fun j => sv (fset sp t (some (p, xs)) j)))) rdy U D mt vs (fset sp t (some (p, xs))) := by
  obtain ⟨a1, a2, a3, a4, a5, a6, a7⟩ := Bc.nd7 B.nd
  have hxm : c.sa ∈ c.mu ex := List.mem_cons_of_mem _ List.mem_cons_self
  refine ⟨fun b o h2 h3 h4 => (upd_ne _ _ h4).trans (B.st b o h2 h3 h4), (upd_ne _ _ a1).trans B.hv, upd_self .., fun j q zs h => ?_,
    B.W.mono fun b o hb hf => (upd_ne _ _ (by rintro rfl; exact B.nF _ hxm hf)).trans hb, (upd_ne _ _ (Ne.symm a4)).trans B.hm, fun m h => ⟨(upd_ne _ _ (by first | exact no_some ((B.mtu m h).1) (B.hs) | exact no_some (B.hs) ((B.mtu m h).1) | exact (no_some ((B.mtu m h).1) (B.hs)).symm | exact (no_some (B.hs) ((B.mtu m h).1)).symm | exact two_ne ((B.mtu m h).1) (B.hs) (by intro q; cases q; done) | exact (two_ne ((B.mtu m h).1) (B.hs) (by intro q; cases q; done)).symm | (intro e; have := (B.mtu m h).1; rw [e, B.hs] at this; cases this))).trans (B.mtu m h).1, (B.mtu m h).2⟩, B.nF, B.nd, B.F0, B.e0, fun y hy => ?_, fun q h => ⟨(upd_ne _ _ (by intro e; have h2 := (B.ks q h).1; rw [e, B.hs] at h2; exact (B.ks q h).3 _ (Option.some.inj h2).symm)).trans (B.ks q h).1, (B.ks q h).2, (B.ks q h).3⟩, fun j q zs h => ?_, B.ok⟩
  · by_cases e : j = t
    · subst e
      rw [fset_same] at h
      cases h
      exact ⟨(upd_ne _ _ (by rintro rfl; exact hm hxm)).trans hp, hF, hm⟩
    · rw [fset_ne _ _ e] at h
      exact ⟨(upd_ne _ _ (by rintro rfl; exact (B.hp j _ zs h).3 hxm)).trans (B.hp j q zs h).1, (B.hp j q zs h).2, (B.hp j q zs h).3⟩
  · by_cases e : y = c.sa
    · subst e; exact ⟨_, upd_self ..⟩
    · obtain ⟨zs, hz⟩ := B.al y hy
      exact ⟨zs, (upd_ne _ _ e).trans hz⟩
  · by_cases e : j = t
    · subst e
      rw [fset_same] at h
      cases h
      exact hok
    · rw [fset_ne _ _ e] at h
      exact B.hq j q zs h
theorem BS.addM (B : BS c ex kp H rdy U D mt vs sp) {m : Addr × Int × Int} (hm : H m.1 = some (.tuple [.int m.2.1 0, .int m.2.2 0])) (hF : ¬ c.F m.1) : BS c ex kp (upd H c.ma (.list ((mt ++ [m]).map fun m => .ref m.1))) rdy U D (mt ++ [m]) vs sp := by
  obtain ⟨a1, a2, a3, a4, a5, a6, a7⟩ := Bc.nd7 B.nd
  have hxm : c.ma ∈ c.mu ex := List.mem_cons_of_mem _ (List.mem_cons_of_mem _ List.mem_cons_self)
  have h0 := B.e0 c.ma List.mem_cons_self
  refine ⟨fun b o h2 h3 h4 => (upd_ne _ _ (by first | exact no_some (h0) h2 | exact (no_some (h0) h2).symm | exact no_some h2 (h0) | exact (no_some h2 (h0)).symm | exact two_ne (h0) h2 (by intro q; cases q; done) | exact (two_ne (h0) h2 (by intro q; cases q; done)).symm | (rintro rfl; rw [h0] at h2; cases h2))).trans (B.st b o h2 h3 h4), (upd_ne _ _ a2).trans B.hv, (upd_ne _ _ a4).trans B.hs, fun t p zs h => ⟨(upd_ne _ _ (by rintro rfl; exact (B.hp t _ zs h).3 hxm)).trans (B.hp t p zs h).1, (B.hp t p zs h).2, (B.hp t p zs h).3⟩,
    B.W.mono fun b o hb hf => (upd_ne _ _ (by rintro rfl; exact B.nF _ hxm hf)).trans hb, upd_self .., fun n h => ?_, B.nF, B.nd, B.F0, B.e0, fun y hy => ?_, fun q h => ⟨(upd_ne _ _ (by intro e; have h2 := (B.ks q h).1; rw [e, B.hm] at h2; exact (B.ks q h).3 _ (Option.some.inj h2).symm)).trans (B.ks q h).1, (B.ks q h).2, (B.ks q h).3⟩, B.hq, B.ok⟩
  · have key : ∀ n : Addr × Int × Int, H n.1 = some (.tuple [.int n.2.1 0, .int n.2.2 0]) → upd H c.ma (.list ((mt ++ [m]).map fun m => .ref m.1)) n.1 = some (.tuple [.int n.2.1 0, .int n.2.2 0]) := fun n hn => (upd_ne _ _ (by first | exact no_some (hn) (B.hm) | exact no_some (B.hm) (hn) | exact (no_some (hn) (B.hm)).symm | exact (no_some (B.hm) (hn)).symm | exact two_ne (hn) (B.hm) (by intro q; cases q; done) | exact (two_ne (hn) (B.hm) (by intro q; cases q; done)).symm | (intro e; rw [e, B.hm] at hn; cases hn))).trans hn
    rcases List.mem_append.mp h with h | h
    · exact ⟨key n (B.mtu n h).1, (B.mtu n h).2⟩
    · cases List.mem_singleton.mp h
      exact ⟨key m hm, hF⟩
  · by_cases e : y = c.ma
    · subst e; exact ⟨_, upd_self ..⟩
    · obtain ⟨zs, hz⟩ := B.al y hy
      exact ⟨zs, (upd_ne _ _ e).trans hz⟩
theorem BS.addK (B : BS c ex kp H rdy U D mt vs sp) (hb : H b = some o) (hF : ¬ c.F b) (hn : ∀ xs, o ≠ .list xs) : BS c ex ((b, o) :: kp) H rdy U D mt vs sp :=
  ⟨B.st, B.hv, B.hs, B.hp, B.W, B.hm, B.mtu, B.nF, B.nd, B.F0, B.e0, B.al, fun q h => by
    rcases List.mem_cons.mp h with rfl | h
    · exact ⟨hb, hF, hn⟩
    · exact B.ks q h, B.hq, B.ok⟩
theorem BS.dropK {q0 : Addr × AO} (B : BS c ex (q0 :: kp) H rdy U D mt vs sp) : BS c ex kp H rdy U D mt vs sp :=
  ⟨B.st, B.hv, B.hs, B.hp, B.W, B.hm, B.mtu, B.nF, B.nd, B.F0, B.e0, B.al, fun q h => B.ks q (List.mem_cons_of_mem _ h), B.hq, B.ok⟩
theorem BS.h0 (B : BS c ex kp H rdy U D mt vs sp) (hb : H b = none) : c.H0 b = none := by
  cases e : c.H0 b with
  | none => rfl
  | some o =>
    have := B.st b o e (B.alive (by simp [Bc.mu]) hb).symm (B.alive (by simp [Bc.mu]) hb).symm
    rw [hb] at this; cases this
end

noncomputable def fBody : Stmt → List Stmt
  | .FunctionDef _ _ b _ _ _ _ _ _ _ => b
  | _ => []
noncomputable def fNames : Stmt → List (Str × NameKind)
  | .FunctionDef _ _ _ _ _ _ sc _ _ _ => sc.names
  | _ => []
noncomputable def nth (l : List Stmt) (i : Nat) : Stmt := (l[i]?).getD (.Pass default)
set_option genInjectivity false in
structure SWp (C : Cx) (A : Around) (f : Fm) (b : List Stmt) (L : Loc) (H : AH) (Q : Flow → Loc → AH → Prop) : Prop where
  go : SW C A nx f b L H Q
noncomputable def bldS : Stmt := nth PySem.Challenge.pw_dm0133_07.main.body 8
theorem g_build {C : Cx} (X : Ctx C) : C.mg "_law_build" = some (.ref 146) := (congrFun X.mg _).trans (by kernel_rfl)
theorem b_sorted {C : Cx} (X : Ctx C) : C.mg "sorted" = none := (congrFun X.mg _).trans (by kernel_rfl)
theorem b_max {C : Cx} (X : Ctx C) : C.mg "max" = none := (congrFun X.mg _).trans (by kernel_rfl)
section
variable {C : Cx} {A : Around} {E : Value → Shared → Prop} {f : Fm} {L : Loc} {H : AH} {p : Pos} {Q : Value → Loc → AH → Prop}
theorem n_build (X : Ctx C) (hk : f.env.kindOf "_law_build" = some .globalImplicit) (h : Q (.ref 146) L H) : EW C A E f (.Name "_law_build" p) L H Q := EW.global X.O hk (g_build X) h
theorem n_sorted (X : Ctx C) (hk : f.env.kindOf "sorted" = some .globalImplicit) (h : Q (.builtin "sorted") L H) : EW C A E f (.Name "sorted" p) L H Q := EW.builtin X.O hk (b_sorted X) (v := .builtin "sorted") (by kernel_rfl) h
theorem n_max (X : Ctx C) (hk : f.env.kindOf "max" = some .globalImplicit) (h : Q (.builtin "max") L H) : EW C A E f (.Name "max" p) L H Q := EW.builtin X.O hk (b_max X) (v := .builtin "max") (by kernel_rfl) h
end
local macro_rules | `(tactic| walk_at "wglob") => do `(tactic| focus ($(← Mine.Alts 3 "n_build n_sorted n_max"):tactic; assumption; walk_at "wkg"))
set_option genInjectivity false in
structure RcAt (H : AH) (ra : Addr) (rl : Int → Addr) (rt : Int → List (Addr × Int × Int)) : Prop where
  top : H ra = some (.list (six.map fun t => .ref (rl t)))
  each : ∀ t ∈ six, H (rl t) = some (.list ((rt t).map fun p => .ref p.1))
  tup : ∀ t ∈ six, ∀ p ∈ rt t, H p.1 = some (.tuple [.int p.2.1 0, .int p.2.2 0])
  len : ∀ t ∈ six, (rt t).length ≤ 10
noncomputable def rcOf (rt : Int → List (Addr × Int × Int)) (t : Int) : List (Int × Int) := (rt t).map (·.2)
theorem RcAt.ge {H H' : AH} {ra : Addr} {rl : Int → Addr} {rt : Int → List (Addr × Int × Int)} (R : RcAt H ra rl rt) (g : Ge H H') : RcAt H' ra rl rt :=
  ⟨g _ _ R.top, fun t h => g _ _ (R.each t h), fun t h p hp => g _ _ (R.tup t h p hp), R.len⟩
theorem six_len : six.length = 6 := rfl
theorem lift_fun {β : Type} : ∀ {l : List Int} {ps : List (Addr × β)} {out : Int → β}, l.Nodup → ps.map (·.2) = l.map out → ∃ ra : Int → Addr, ps = l.map fun a => (ra a, out a)
  | [], [], _, _, _ => ⟨fun _ => 0, rfl⟩
  | [], _ :: _, _, _, h => by cases h
  | _ :: _, [], _, _, h => by cases h
  | x :: l, (a, v) :: ps, out, nd, h => by
    rw [List.nodup_cons] at nd
    simp only [List.map_cons, List.cons.injEq] at h
    obtain ⟨ra, e⟩ := lift_fun nd.2 h.2
    refine ⟨fun y => if y = x then a else ra y, ?_⟩
    rw [List.map_cons]
    congr 1
    · simp [h.1]
    · rw [e]
      refine List.map_congr_left fun y hy => ?_
      have : y ≠ x := by rintro rfl; exact nd.1 hy
      simp [this]
section
variable {C : Cx} {A : Around} {E : Value → Shared → Prop} {H H0 : AH}
set_option maxHeartbeats 4000000 in
theorem bldA (X' : Ctx C) {k : Nat} (hA' : AIn C A (k + 9)) {f : Fm} {L : Loc} (FS0 : Frame f (fNames bldS)) {ra : Addr} {rl : Int → Addr} {rt : Int → List (Addr × Int × Int)} (R : RcAt H ra rl rt) (hL : L "recipes" = some (.ref ra)) {Q : Flow → Loc → AH → Prop}
    (h : ∀ (L' : Loc) (H' : AH) (a d0 d nl : Addr) (na : Int → Addr), L' "sorter" = some (.ref a) → L' "needs" = some (.ref nl) → (∀ x : Str, x ≠ "sorter" → x ≠ "needs" → L' x = L x) → (Hx : AH) → Ge H Hx → Sg Hx H' a d0 d [] → Hx nl = some (.list (six.map fun t => .ref (na t))) → (∀ t ∈ six, Hx (na t) = some (.list (ivs ((rcOf rt t).map (·.1))))) → SWp C A f ((fBody bldS).drop 2) L' H' Q) : SWp C A f (fBody bldS) L H Q := by
  refine ⟨?_⟩
  have FS : Frame f (_ :: _) := FS0
  have O' := X'.O
  have e : fBody bldS = (_ :: _) := rfl
  rw [e]
  clear e
  walk_at "ww"
  have hA3 : AIn C A (k + 6 + 3) := hA'
  refine ⟨k137 X', c_new X' hA3 fun a d0 d H1 S1 => ?_⟩
  walk_at "ww"
  have R1 := R.ge S1.old
  refine XW.setCompJ FS.c rfl rfl (fun _ _ => rfl) rfl (swaps_comp FS.c rfl) ?_
  walk_at "ww"
  refine CompJ.objs .list six (fun t => .ref (rl t)) (fun t => ivs ((rcOf rt t).map (·.1))) (fun H => H ra = some (.list (six.map fun t => .ref (rl t)))) R1.top (IterP.list hA'.hd) (by decide) (fun H' g => g _ _ R1.top) ?_ ?_
  · intro f' t L2 H2 ht FC g12 hl hu
    have R2 := R1.ge g12
    refine EW.lcompT hA'.hd FC rfl rfl rfl (by decide) (fun _ _ => rfl) ?_
    walk_at "ww"
    refine ⟨(rt t).map fun p => (p.1, Value.int p.2.1 0, Value.int p.2.2 0), fun p => p.2.1, fun H => H (rl t) = some (.list ((rt t).map fun p => .ref p.1)), R2.each t ht, ?_, fun H' g => g _ _ (R2.each t ht), by rw [List.length_map]; exact Nat.le_trans (R2.len t ht) (by decide), ?_, ?_, ?_⟩
    · rw [List.map_map]
      exact IterP.list hA'.hd
    · intro q hq
      obtain ⟨p, hp, rfl⟩ := List.mem_map.mp hq
      exact R2.tup t ht p hp
    · intro f2 q L3 H3 hq FC2 g23 hl2 hx hy
      walk_at "ww"
      exact ⟨rfl, .refl, rfl⟩
    · intro r H3 g23 hr hr'
      refine ⟨rfl, g23, r, rfl, hr, ?_⟩
      rw [hr', List.map_map]
      simp [ivs, rcOf, Function.comp_def]
  · intro nl H2 ps hnl g12 hnl2 hps hpe nd
    obtain ⟨na, rfl⟩ := lift_fun (by decide) hpe
    rw [List.map_map] at hnl2
    with_reducible refine seqQ.next ?_
    have hia := S1.inst
    obtain ⟨N, ep, S2, e2, k2⟩ := S1.ex
    have hN : N = [] := by cases N with | nil => rfl | cons _ _ => cases e2
    subst hN
    have fo : ∀ b, H1 b = none → ¬ Foot a d [] b := by
      rintro b hb (h1 | h1 | ⟨n, hn, _⟩)
      · rw [h1, hia] at hb; cases hb
      · rw [h1, S2.dict] at hb; cases hb
      · cases hn
    have hx : ∀ (b : Addr) (o : AO), ¬ Foot a d [] b → H2 b = some o → (if b = a ∨ b = d then none else H2 b) = some o := by
      intro b o h1 h2
      rw [if_neg (fun h3 => h1 (h3.elim (fun e => .inl e) fun e => .inr (.inl e)))]; exact h2
    refine (h _ _ a d0 d nl na (by walk_at "wloc") (by walk_at "wloc") ?_ (fun b => if b = a ∨ b = d then none else H2 b) ?_ ⟨[], ep, S2.keep fun b o hb _ => g12 b o hb, rfl, fun b o hb => ?_⟩ (hx _ _ (fo _ hnl) hnl2) ?_).go
    · intro x h1 h2
      rw [setL_ne h2, setL_ne h1]
    · intro b o hb
      exact hx b o (k2 b o hb).2 (g12 _ _ (k2 b o hb).1)
    · by_cases e : b = a ∨ b = d
      · simp only [if_pos e] at hb; cases hb
      · simp only [if_neg e] at hb
        refine ⟨hb, ?_⟩
        rintro (h1 | h1 | ⟨n, hn, _⟩)
        · exact e (.inl h1)
        · exact e (.inr h1)
        · cases hn
    · intro t ht
      have := hps _ (List.mem_map.mpr ⟨t, ht, rfl⟩)
      exact hx _ _ (fo _ this.1) this.2.2
theorem clip_nat (n m : Nat) : clipAt n (m : Int) = min m n := by
  unfold clipAt; split <;> omega
theorem pick_lo {xs : List Int} {m : Nat} : pick (ivs xs) (some (m : Int)) none = ivs (xs.drop m) := by
  unfold pick
  simp only [Option.elim, ivs_len, clip_nat]
  rw [List.take_of_length_le (by rw [List.length_drop, ivs_len]; exact Nat.le_refl _)]
  unfold ivs
  rw [List.map_drop]
  rcases Nat.le_total m xs.length with h | h
  · rw [Nat.min_eq_left h]
  · rw [Nat.min_eq_right h, List.drop_eq_nil_of_le (by simp), List.drop_eq_nil_of_le (by simpa using h)]
theorem pick_hi {xs : List Int} {m : Nat} : pick (ivs xs) none (some (m : Int)) = ivs (xs.take m) := by
  unfold pick
  simp only [Option.elim, ivs_len, clip_nat, List.drop_zero, Nat.sub_zero]
  unfold ivs
  rw [← List.map_take]
  rcases Nat.le_total m xs.length with h | h
  · rw [Nat.min_eq_left h]
  · rw [Nat.min_eq_right h, List.take_of_length_le (Nat.le_refl _), List.take_of_length_le h]
end

theorem fmod_nat (i : Nat) (m : Nat) : Int.fmod i m = ((i % m : Nat) : Int) := by
  rw [Int.fmod_eq_emod_of_nonneg _ (by lia)]; rfl
noncomputable def gLo (g : Int → List Int) (t : Int) : List Int := (g t).drop (t.toNat % 2)
noncomputable def gHi (g : Int → List Int) (t : Int) : List Int := (g t).take (t.toNat % 2)
noncomputable def ringG (w0 : Int) : List (Int × List Int) := if w0.toNat % 2 = 1 then [(6, [7]), (7, [6])] else []
theorem szA_app (A B : List (Int × List Int)) : szA (A ++ B) = szA A + szA B := by simp [szA]
theorem mod2 {t : Int} (h : 0 ≤ t) : Int.fmod t 2 = ((t.toNat % 2 : Nat) : Int) := by
  obtain ⟨n, rfl⟩ := Int.eq_ofNat_of_zero_le h
  exact fmod_nat n 2
theorem m_add {C : Cx} {A : Around} {E : Value → Shared → Prop} {H : AH} {a d0 d : Addr} (X : Ctx C) {rd : Value} {p q : Int} {Q : Value → List Value → AH → Prop} (hI : H a = some (.inst 137 d0 (flds d rd p q) [])) (h : Q (.ref 87) [.ref a] H) : MethP C A E (.ref a) "add" H Q :=
  MethP.inst (fa := 87) (y := none) (cls137 X) hI rfl (X.O.kin _ _ (X.look rfl)) rfl (by walk_at "tl") rfl h
theorem k87 {C : Cx} {H : AH} (X : Ctx C) : KeepOk C (.ref 87) H := KeepOk.known X.O (by walk_at "kk") ⟨_, rfl⟩
section
variable {C : Cx} {A : Around} {E : Value → Shared → Prop} {H Hx : AH}
set_option maxHeartbeats 4000000 in
theorem bldB (X' : Ctx C) {k : Nat} (hA' : AIn C A (k + 5)) {f : Fm} {L : Loc} (FS0 : Frame f (fNames bldS)) {wa nl a d0 d : Addr} {na : Int → Addr} {g : Int → List Int} {W : List Int} {w0 : Int} (S : Sg Hx H a d0 d []) (hw : Hx wa = some (.list (ivs W))) (hnl : Hx nl = some (.list (six.map fun t => .ref (na t)))) (hna : ∀ t ∈ six, Hx (na t) = some (.list (ivs (g t)))) (hg : ∀ t ∈ six, (g t).length ≤ 10)
    (hW : ∀ t ∈ W, t ∈ six) (hWl : W.length ≤ 6) (h0 : W[0]? = some w0) (l1 : L "wanted" = some (.ref wa)) (l2 : L "needs" = some (.ref nl)) (l3 : L "sorter" = some (.ref a)) {Q : Flow → Loc → AH → Prop}
    (h : ∀ (L' : Loc) (H' : AH), L' "ring" = some (.bool false) → (∀ x : Str, x ≠ "thing" → x ≠ "ring" → L' x = L x) → Sg Hx H' a d0 d ((W.map fun t => (t, gLo g t)) ++ (W.map fun t => (t, gHi g t)) ++ ringG w0) → SWp C A f ((fBody bldS).drop 6) L' H' Q) : SWp C A f ((fBody bldS).drop 2) L H Q := by
  refine ⟨?_⟩
  have FS : Frame f (_ :: _) := FS0
  have O' := X'.O
  have e : (fBody bldS).drop 2 = (_ :: _) := rfl
  rw [e]
  clear e
  have s1 : ∀ dn ks, W = dn ++ ks → szA (dn.map fun t => (t, gLo g t)) ≤ 66 := fun dn ks e => by
    have h1 := szA_le (gLo g) 10 (ks := dn) fun k hk => by
      have := hg k (hW k (by rw [e]; exact List.mem_append_left _ hk))
      unfold gLo; rw [List.length_drop]; lia
    have h2 := congrArg List.length e
    rw [List.length_append] at h2
    lia
  have s2 : ∀ dn ks, W = dn ++ ks → szA (dn.map fun t => (t, gHi g t)) ≤ 66 := fun dn ks e => by
    have h1 := szA_le (gHi g) 10 (ks := dn) fun k hk => by
      have := hg k (hW k (by rw [e]; exact List.mem_append_left _ hk))
      unfold gHi; rw [List.length_take]; lia
    have h2 := congrArg List.length e
    rw [List.length_append] at h2
    lia
  walk_at "ww"
  refine XW.for ?_
  walk_at "ww"
  refine ⟨ivs W, fun H => H wa = some (.list (ivs W)), S.old _ _ hw, IterP.list hA'.hd, ?_⟩
  refine ForW.invT (fun xs L1 H' => Ex2 fun (ks dn : List Int) => An4 (xs = ivs ks) (W = dn ++ ks) (Sg Hx H' a d0 d (dn.map fun t => (t, gLo g t))) (∀ x : Str, x ≠ "thing" → L1 x = L x)) ?_ ?_ ⟨W, [], rfl, rfl, S, fun _ _ => rfl⟩
  rotate_left
  · rintro x xs L1 H1 T hT ⟨ks, dn, e1, e2, S1, hl⟩
    cases ks with
    | nil => cases e1
    | cons t ks =>
      cases e1
      have ht := hW t (by rw [e2]; simp)
      obtain ⟨t0, t6⟩ := mem_six.mp ht
      have k1 := (hl "wanted" (by decide)).trans l1
      have k2 := (hl "needs" (by decide)).trans l2
      have k3 := (hl "sorter" (by decide)).trans l3
      walk_at "ww"
      refine EW.methodS ?_
      walk_at "ww"
      refine bm_add X' S1.inst fun m hm => ?_
      have S2 := S1.fresh (o := .obj (methodObj (.ref 87) (.ref a))) hm
      have hm2 := upd_self H1 m (.obj (methodObj (.ref 87) (.ref a)))
      generalize upd H1 m (.obj (methodObj (.ref 87) (.ref a))) = H2 at S2 hm2 ⊢
      walk_at "ww"
      refine Pe2.subList (S2.old _ _ hnl) t0 (six_get _ t0 t6) (by lia) ?_
      walk_at "ww"
      refine Pe2.mod (by decide) ?_
      rw [mod2 t0]
      refine ⟨_, rfl, ?_⟩
      refine EWo.none fun c hc => ?_
      have S3 := S2.fresh (o := .slice (some ((t.toNat % 2 : Nat) : Int)) none) hc
      have hm3 := upd_fresh (o := .slice (some ((t.toNat % 2 : Nat) : Int)) none) hc _ _ hm2
      refine P2.slice (S3.old _ _ (hna t ht)) (upd_self ..) (by rw [ivs_len]; exact Nat.le_trans (hg t ht) (by decide)) fun r hr => ?_
      rw [pick_lo]
      have S4 := S3.fresh (o := .list (ivs (gLo g t))) hr
      have hm4 := upd_fresh (o := .list (ivs (gLo g t))) hr _ _ hm3
      have hr4 := upd_self (upd H2 c (.slice (some ((t.toNat % 2 : Nat) : Int)) none)) r (.list (ivs (gLo g t)))
      have hgl : (gLo g t).length ≤ 10 := by unfold gLo; rw [List.length_drop]; exact Nat.le_trans (Nat.sub_le ..) (hg t ht)
      show StarP _ _ _ _ (upd (upd H2 c (.slice (some ((t.toNat % 2 : Nat) : Int)) none)) r (.list (ivs (gLo g t)))) _
      generalize upd (upd H2 c (.slice (some ((t.toNat % 2 : Nat) : Int)) none)) r (.list (ivs (gLo g t))) = H4 at S4 hm4 hr4 ⊢
      refine StarP.list hr4 (by rw [ivs_len]; exact Nat.le_trans hgl (by decide)) ?_
      walk_at "ww"
      have := s1 dn _ e2
      refine ⟨KeepOk.meth O' hm4 (fn87 X'), ?_⟩
      rw [List.append_nil]
      refine c_addM X' hA' S4 hm4 (by lia) fun H5 S5 => ?_
      walk_at "ww"
      refine hT _ _ _ ⟨S5.old _ _ hw, ks, dn ++ [t], rfl, by rw [e2]; simp, ?_, fun x hx => (setL_ne hx).trans (hl x hx)⟩
      rw [List.map_append]; exact S5
  rintro L1 H1 ⟨ks, dn, e1, e2, S1, hl⟩
  cases ks with
  | cons _ _ => cases e1
  | nil =>
  rw [List.append_nil] at e2
  subst e2
  have k1 := (hl "wanted" (by decide)).trans l1
  walk_at "ww"
  refine XW.for ?_
  walk_at "ww"
  refine ⟨ivs W, fun H => H wa = some (.list (ivs W)), S1.old _ _ hw, IterP.list hA'.hd, ?_⟩
  refine ForW.invT (fun xs L1 H' => Ex2 fun (ks dn : List Int) => An4 (xs = ivs ks) (W = dn ++ ks) (Sg Hx H' a d0 d ((W.map fun t => (t, gLo g t)) ++ dn.map fun t => (t, gHi g t))) (∀ x : Str, x ≠ "thing" → L1 x = L x)) ?_ ?_ ⟨W, [], rfl, rfl, by rw [List.map_nil, List.append_nil]; exact S1, hl⟩
  rotate_left
  · rintro x xs L2 H1 T hT ⟨ks, dn, e1, e2, S1, hl⟩
    cases ks with
    | nil => cases e1
    | cons t ks =>
      cases e1
      have ht := hW t (by rw [e2]; simp)
      obtain ⟨t0, t6⟩ := mem_six.mp ht
      have k1 := (hl "wanted" (by decide)).trans l1
      have k2 := (hl "needs" (by decide)).trans l2
      have k3 := (hl "sorter" (by decide)).trans l3
      walk_at "ww"
      refine EW.methodS ?_
      walk_at "ww"
      refine bm_add X' S1.inst fun m hm => ?_
      have S2 := S1.fresh (o := .obj (methodObj (.ref 87) (.ref a))) hm
      have hm2 := upd_self H1 m (.obj (methodObj (.ref 87) (.ref a)))
      generalize upd H1 m (.obj (methodObj (.ref 87) (.ref a))) = H2 at S2 hm2 ⊢
      walk_at "ww"
      refine Pe2.subList (S2.old _ _ hnl) t0 (six_get _ t0 t6) (by lia) ?_
      walk_at "ww"
      refine Pe2.mod (by decide) ?_
      rw [mod2 t0]
      refine ⟨_, rfl, ?_⟩
      intro c hc
      have S3 := S2.fresh (o := .slice none (some ((t.toNat % 2 : Nat) : Int))) hc
      have hm3 := upd_fresh (o := .slice none (some ((t.toNat % 2 : Nat) : Int))) hc _ _ hm2
      refine P2.slice (S3.old _ _ (hna t ht)) (upd_self ..) (by rw [ivs_len]; exact Nat.le_trans (hg t ht) (by decide)) fun r hr => ?_
      rw [pick_hi]
      have S4 := S3.fresh (o := .list (ivs (gHi g t))) hr
      have hm4 := upd_fresh (o := .list (ivs (gHi g t))) hr _ _ hm3
      have hr4 := upd_self (upd H2 c (.slice none (some ((t.toNat % 2 : Nat) : Int)))) r (.list (ivs (gHi g t)))
      have hgl : (gHi g t).length ≤ 10 := by unfold gHi; rw [List.length_take]; exact Nat.le_trans (Nat.min_le_right ..) (hg t ht)
      show StarP _ _ _ _ (upd (upd H2 c (.slice none (some ((t.toNat % 2 : Nat) : Int)))) r (.list (ivs (gHi g t)))) _
      generalize upd (upd H2 c (.slice none (some ((t.toNat % 2 : Nat) : Int)))) r (.list (ivs (gHi g t))) = H4 at S4 hm4 hr4 ⊢
      refine StarP.list hr4 (by rw [ivs_len]; exact Nat.le_trans hgl (by decide)) ?_
      walk_at "ww"
      have q1 := s1 W [] (by simp)
      have q2 := s2 dn _ e2
      refine ⟨KeepOk.meth O' hm4 (fn87 X'), ?_⟩
      rw [List.append_nil]
      refine c_addM X' hA' S4 hm4 (by rw [szA_app]; lia) fun H5 S5 => ?_
      walk_at "ww"
      refine hT _ _ _ ⟨S5.old _ _ hw, ks, dn ++ [t], rfl, by rw [e2]; simp, ?_, fun x hx => (setL_ne hx).trans (hl x hx)⟩
      rw [List.map_append, ← List.append_assoc]; exact S5
  clear S1 hl k1 H1 L1
  rintro L1 H1 ⟨ks, dn, e1, e2, S1, hl⟩
  cases ks with
  | cons _ _ => cases e1
  | nil =>
  rw [List.append_nil] at e2
  subst e2
  have k1 := (hl "wanted" (by decide)).trans l1
  have k3 := (hl "sorter" (by decide)).trans l3
  have q1 := s1 W [] (by simp)
  have q2 := s2 W [] (by simp)
  obtain ⟨w00, w06⟩ := mem_six.mp (hW w0 (List.mem_of_getElem? h0))
  have hget : (ivs W)[(0 : Int).toNat]? = some (.int w0 0) := ivs_get h0
  walk_at "ww"
  refine Pe2.subList (S1.old _ _ hw) (by decide) hget (by decide) ?_
  walk_at "ww"
  refine Pe2.mod (by decide) ?_
  rw [mod2 w00]
  walk_at "ww"
  refine P2.eq ⟨_, rfl, ?_⟩
  have hlast : ∀ (L2 : Loc) (H2 : AH), (∀ x : Str, x ≠ "thing" → L2 x = L x) → Sg Hx H2 a d0 d ((W.map fun t => (t, gLo g t)) ++ (W.map fun t => (t, gHi g t)) ++ ringG w0) → SWp C A f ((fBody bldS).drop 6) (setL L2 "ring" (.bool false)) H2 Q := fun L2 H2 hl2 S2 => h _ _ setL_same (fun x h1 h2 => (setL_ne h2).trans (hl2 x h1)) S2
  cases e : (((w0.toNat % 2 : Nat) : Int) == 1) with
  | true =>
    refine ite_t ?_
    have hr : ringG w0 = [(6, [7]), (7, [6])] := by
      unfold ringG; rw [if_pos (by have := eq_of_beq e; lia)]
    rw [hr] at hlast
    walk_at "ww"
    refine m_add X' S1.inst ?_
    walk_at "ww"
    refine ⟨k87 X', c_addF X' hA' S1 (by rw [szA_app]; lia) fun H2 S2 => ?_⟩
    walk_at "ww"
    refine m_add X' S2.inst ?_
    walk_at "ww"
    refine ⟨k87 X', c_addF X' hA' S2 (by rw [szA_app, szA_app]; show _ + (2 + 0) + 1 < 900; lia) fun H3 S3 => ?_⟩
    with_reducible refine seqQ.next ?_
    with_reducible refine SW.nil ?_
    with_reducible refine seqQ.next ?_
    refine SW.cons ?_
    refine XW.set (EW.cbool ?_) rfl rfl rfl
    refine GW.local ((FS.kinds _).trans rfl) FS.loc ?_
    with_reducible refine seqQ.next ?_
    exact (hlast _ _ hl (by rw [List.append_assoc] at S3; exact S3)).go
  | false =>
    refine ite_f ?_
    have hr : ringG w0 = [] := by
      unfold ringG; rw [if_neg (by intro h1; rw [h1] at e; exact absurd e (by decide))]
    rw [hr, List.append_nil] at hlast
    with_reducible refine SW.nil ?_
    with_reducible refine seqQ.next ?_
    refine SW.cons ?_
    refine XW.set (EW.cbool ?_) rfl rfl rfl
    refine GW.local ((FS.kinds _).trans rfl) FS.loc ?_
    with_reducible refine seqQ.next ?_
    exact (hlast _ _ hl S1).go
end

noncomputable def ringJ (w0 : Int) : List Int := if w0.toNat % 2 = 1 then [6, 7] else []
noncomputable def GG (g : Int → List Int) (W : List Int) (w0 : Int) : List (Int × List Int) := (W.map fun t => (t, gLo g t)) ++ (W.map fun t => (t, gHi g t)) ++ ringG w0
section
variable {g : Int → List Int} {W : List Int} {w0 : Int}
structure GW' (g : Int → List Int) (W : List Int) : Prop where
  n : W.Nodup
  r : ∀ t ∈ W, 0 ≤ t ∧ t < 6
  d : ∀ t ∈ W, ∀ a ∈ g t, a ∈ W ∧ a < t
  g6 : g 6 = [7]
  g7 : g 7 = [6]
theorem ring_sum (m : List Int → Nat) (j : Int) (h : g 6 = [7]) (h' : g 7 = [6]) : sumL (ringG w0) j m = if j ∈ ringJ w0 then m (g j) else 0 := by
  unfold ringG ringJ
  split
  · by_cases e6 : j = 6
    · subst e6; simp [sumL, h]
    · by_cases e7 : j = 7
      · subst e7; simp [sumL, h']
      · have : ¬ (6 : Int) = j := fun e => e6 e.symm
        have : ¬ (7 : Int) = j := fun e => e7 e.symm
        simp [sumL, *]
  · simp [sumL]
theorem GG_sum (G : GW' g W) (m : List Int → Nat) (hm : ∀ l k, m (l.drop k) + m (l.take k) = m l) (j : Int) : sumL (GG g W w0) j m = if j ∈ W ++ ringJ w0 then m (g j) else 0 := by
  unfold GG
  rw [sumL_append, sumL_append, sumL_map G.n, sumL_map G.n, ring_sum m j G.g6 G.g7]
  by_cases hW : j ∈ W
  · have hr : j ∉ ringJ w0 := by
      intro h
      have := G.r j hW
      unfold ringJ at h
      split at h
      · simp only [List.mem_cons, List.not_mem_nil, or_false] at h; lia
      · cases h
    rw [if_pos hW, if_pos hW, if_neg hr, if_pos (List.mem_append_left _ hW), Nat.add_zero]
    exact hm (g j) _
  · by_cases hr : j ∈ ringJ w0
    · rw [if_neg hW, if_neg hW, if_pos hr, if_pos (List.mem_append_right _ hr), Nat.zero_add]
    · rw [if_neg hW, if_neg hW, if_neg hr, if_neg (fun h => (List.mem_append.mp h).elim hW hr)]
theorem GG_SI (G : GW' g W) : SI g (· ∈ W ++ ringJ w0) (foldA (GG g W w0) []) (rdy0 (foldA (GG g W w0) [])) [] [] 0 0 := by
  obtain ⟨h1, h2, h3, h4⟩ := foldA_all (GG g W w0) []
  have hk : ∀ j, j ∈ ky (foldA (GG g W w0) []) ↔ j ∈ W ++ ringJ w0 := by
    intro j
    rw [h3]
    constructor
    · rintro (h | ⟨x, hx, h⟩)
      · cases h
      · unfold GG at hx
        rcases List.mem_append.mp hx with hx | hx
        · have : ∃ t ∈ W, x.1 = t ∧ ∀ a ∈ x.2, a ∈ g t := by
            rcases List.mem_append.mp hx with hx | hx
            · obtain ⟨t, ht, rfl⟩ := List.mem_map.mp hx
              exact ⟨t, ht, rfl, fun a ha => List.mem_of_mem_drop ha⟩
            · obtain ⟨t, ht, rfl⟩ := List.mem_map.mp hx
              exact ⟨t, ht, rfl, fun a ha => List.mem_of_mem_take ha⟩
          obtain ⟨t, ht, e, hs⟩ := this
          rcases h with rfl | h
          · rw [e]; exact List.mem_append_left _ ht
          · exact List.mem_append_left _ (G.d t ht j (hs j h)).1
        · refine List.mem_append_right _ ?_
          unfold ringG at hx
          unfold ringJ
          split at hx
          · rename_i e
            rw [if_pos e]
            simp only [List.mem_cons, List.not_mem_nil, or_false] at hx
            rcases hx with rfl | rfl <;> simp at h <;> simp <;> lia
          · cases hx
    · intro h
      refine .inr ?_
      rcases List.mem_append.mp h with h | h
      · exact ⟨(j, gLo g j), List.mem_append_left _ (List.mem_append_left _ (List.mem_map.mpr ⟨j, h, rfl⟩)), .inl rfl⟩
      · unfold ringJ at h
        split at h
        · rename_i e
          have hr : ringG w0 = [(6, [7]), (7, [6])] := by unfold ringG; rw [if_pos e]
          simp only [List.mem_cons, List.not_mem_nil, or_false] at h
          rcases h with rfl | rfl
          · exact ⟨(6, [7]), List.mem_append_right _ (by rw [hr]; simp), .inl rfl⟩
          · exact ⟨(7, [6]), List.mem_append_right _ (by rw [hr]; simp), .inl rfl⟩
        · cases h
  refine SI.init hk (h4 .nil) (fun j hj => ?_) fun a s => ?_
  · rw [h1, GG_sum G List.length (fun l k => by rw [List.length_drop, List.length_take]; lia), if_pos hj]
    show (0 : Int) + _ = _
    rw [Int.zero_add]
  · rw [h2, GG_sum G (List.count a) (fun l k => by rw [Nat.add_comm, ← List.count_append, List.take_append_drop])]
    by_cases hs : s ∈ W ++ ringJ w0
    · rw [if_pos hs, if_pos ((hk s).mpr hs)]; exact Nat.zero_add _
    · rw [if_neg hs, if_neg fun h => hs ((hk s).mp h)]; rfl
variable {N : List Nd}
theorem su_mem (G : GW' g W) (e : N.map pv = foldA (GG g W w0) []) (nd : (N.map (·.v)).Nodup) {n : Nd} (hn : n ∈ N) {s : Int} : s ∈ n.su ↔ s ∈ N.map (·.v) ∧ n.v ∈ g s := by
  have S := GG_SI (w0 := w0) G
  rw [← e] at S
  have h1 := S.su n.v s
  rw [suAt_pv nd hn] at h1
  have hk : ky (N.map pv) = N.map (·.v) := pv_fst N
  rw [hk] at h1
  constructor
  · intro hs
    have := List.count_pos_iff.mpr hs
    rw [h1] at this
    by_cases hm : s ∈ N.map (·.v)
    · rw [if_pos hm] at this; exact ⟨hm, List.count_pos_iff.mp this⟩
    · rw [if_neg hm] at this; exact absurd this (Nat.lt_irrefl 0)
  · rintro ⟨hm, hv⟩
    rw [if_pos hm] at h1
    exact List.count_pos_iff.mp (h1 ▸ List.count_pos_iff.mpr hv)
theorem keys_mem (G : GW' g W) (e : N.map pv = foldA (GG g W w0) []) (s : Int) : s ∈ N.map (·.v) ↔ s ∈ W ++ ringJ w0 := by
  have S := GG_SI (w0 := w0) G
  rw [← e] at S
  rw [← S.keys s]
  show _ ↔ s ∈ (N.map pv).map (·.1)
  rw [pv_fst]
theorem GG_inc (G : GW' g W) (hev : ringJ w0 = []) (e : N.map pv = foldA (GG g W w0) []) (nd : (N.map (·.v)).Nodup) : ∀ n ∈ N, ∀ s ∈ n.su, n.v < s := by
  intro n hn s hs
  obtain ⟨h1, h2⟩ := (su_mem G e nd hn).mp hs
  have h3 := (keys_mem G e s).mp h1
  rw [hev, List.append_nil] at h3
  exact (G.d s h3 _ h2).2
theorem GG_cl (G : GW' g W) (e : N.map pv = foldA (GG g W w0) []) (nd : (N.map (·.v)).Nodup) : ∀ n ∈ N, ∀ s ∈ n.su, s ∈ N.map (·.v) := fun n hn s hs => ((su_mem G e nd hn).mp hs).1
theorem GG_ring (G : GW' g W) (hod : ringJ w0 = [6, 7]) (e : N.map pv = foldA (GG g W w0) []) (nd : (N.map (·.v)).Nodup) : (¬ ∀ n ∈ N, ∀ s ∈ n.su, n.v < s) ∧ ∀ z ∈ ([6, 7] : List Int), ∃ n ∈ N, n.v = z ∧ ∃ s ∈ n.su, s ∈ ([6, 7] : List Int) := by
  have k6 : (6 : Int) ∈ N.map (·.v) := (keys_mem G e 6).mpr (by rw [hod]; simp)
  have k7 : (7 : Int) ∈ N.map (·.v) := (keys_mem G e 7).mpr (by rw [hod]; simp)
  obtain ⟨n6, hn6, e6⟩ := List.mem_map.mp k6
  obtain ⟨n7, hn7, e7⟩ := List.mem_map.mp k7
  have s6 : (7 : Int) ∈ n6.su := (su_mem G e nd hn6).mpr ⟨k7, by rw [e6, G.g7]; simp⟩
  have s7 : (6 : Int) ∈ n7.su := (su_mem G e nd hn7).mpr ⟨k6, by rw [e7, G.g6]; simp⟩
  refine ⟨fun h => ?_, fun z hz => ?_⟩
  · have := h n7 hn7 6 s7
    rw [e7] at this; exact absurd this (by decide)
  · simp only [List.mem_cons, List.not_mem_nil, or_false] at hz
    rcases hz with rfl | rfl
    · exact ⟨n6, hn6, e6, 7, s6, by simp⟩
    · exact ⟨n7, hn7, e7, 6, s7, by simp⟩
end

section
variable {C : Cx} {A : Around} {E : Value → Shared → Prop} {f : Fm} {L : Loc} {H : AH}
theorem methodX {o : Expr} {name : Str} {apos p : Pos} {s : Shared} {Q : Value → Shared → Prop} (P : Value → List Value → Loc → AH → Prop)
    (h : EW C A nx f o L H fun ov L1 H1 => MethP C A nx ov name H1 fun fv first H2 => KeepOk C fv H2 ∧ P fv first L1 H2) (R : Rel C H s) (F : FrOk C f L H s.heap)
    (next : ∀ s1 fv first L1 H1, Rel C H1 s1 → FrOk C f L1 H1 s1.heap → Kept C.fr f.ow H H1 s.heap s1.heap → Still s s1 → P (er fv) (first.map er) L1 H1 → wpAny (model C.prog C.w) A (call fv first) Q E s1)
    (hb : plainBase o = true := by rfl) (hpos : (apos.endLine == p.line) = true := by rfl) : wpAny (model C.prog C.w) A (eval (.Call (.Attribute o name apos) [] [] p) f.env) Q E s := by
  show wpAny _ _ (do
    let ov ← attributeBase o name f.env (eval o f.env)
    standAt apos.atName
    methodCall o name apos p f.env ov (0 + 0) (backTo p (starEach [] f.env)) []) _ _ s
  rw [attributeBase_plain _ _ _ hb]
  refine wpAny_bind (wpAny_mono (h s R F) (fun ov s1 ⟨L1, H1, R1, F1, k1, st1, q⟩ => wpAny_bind (wpAny_standAt ?_)) fun _ _ e => e.elim)
  have hform : methodCallForm (0 + 0) (backTo p (starEach [] f.env)) [] = true := by
    unfold methodCallForm
    rw [all_plain p f.env (as := []) rfl]
    rfl
  unfold methodCall
  rw [hform]
  unfold calleeOf methodCallPos
  simp only [if_true, hpos, Bool.not_true, Bool.or_true]
  refine wpAny_bind (wpAny_holding (wpAny_mono (q ov _ rfl s1 R1) (fun r s2 ⟨H2, R2, k2, st2, hk, z⟩ => ?_) fun _ _ e => e.elim))
  obtain ⟨fv, first⟩ := r
  refine wpAny_bind (wpAny_pure ?_)
  refine wpAny_callWith (evalArgs_none (wpAny_pure ⟨rfl, hk fv rfl s2 R2, ?_⟩))
  rw [List.append_nil]
  exact next s2 fv first L1 H2 R2 (F1.keeps k2) (k1.trans (k2.weak (by simp))) (st1.trans st2) z
theorem XW.tryNo {body : List Stmt} {h₀ : ExceptHandler} {hs : List ExceptHandler} {pos : Pos} {Q : Flow → Loc → AH → Prop} (h : SW C A nx f body L H fun fl L1 H1 => fl = .next ∧ Q .next L1 H1) : XW C A E f (.Try body (h₀ :: hs) [] [] pos) L H Q := by
  intro s R F
  refine wpAny_Try_except (wpAny_mono (h s R F) (fun fl s1 ⟨L1, H1, R1, F1, k1, st1, e, q⟩ => ?_) fun _ _ e => e.elim)
  subst e
  exact wpAny_pure ⟨L1, H1, R1, F1, k1, st1, q⟩
theorem XW.tryYes {cls : Addr} {x : Str} {o : Expr} {name : Str} {apos p ep np hp tp : Pos} {b₀ : Stmt} {suite : List Stmt} {Q : Flow → Loc → AH → Prop} (O : C.Ok) (hA : AF C A f) (hcl : ktsIn C.K cls "BaseException" = true) (X : AH → Addr → Addr → AH → Heap → Prop) (P : Value → List Value → Loc → AH → Prop)
    (h : EW C A nx f o L H fun ov L1 H1 => MethP C A nx ov name H1 fun fv first H2 => KeepOk C fv H2 ∧ P fv first L1 H2)
    (call : ∀ fv first L1 H1 s, P (er fv) (first.map er) L1 H1 → Rel C H1 s → codeAny (model C.prog C.w) A (.call fv ⟨first, []⟩) (XO C H1 s fun e T H' h => Flew C (.ref cls) e T H' h ∧ X H1 e T H' h) s)
    (ht : ∀ A' E' L1 H1, EW C A' E' f (.Name x np) L1 H1 fun v L2 H2 => v = .ref cls ∧ L2 = L1 ∧ H2 = H1)
    (hsu : ∀ A' fv first L1 H1 e T H2 h', P fv first L1 H1 → X H1 e T H2 h' → SW C A' nx f (b₀ :: suite) L1 H2 Q)
    (hb : plainBase o = true := by rfl) (hpos : (apos.endLine == p.line) = true := by rfl) (hs : swapsWith (.Call (.Attribute o name apos) [] [] p) none ep.line f.env = pure false := by rfl) :
    XW C A E f (.Try [.Expr (.Call (.Attribute o name apos) [] [] p) ep] [.ExceptHandler (some (.Name x np)) none (b₀ :: suite) hp] [] [] tp) L H Q := by
  intro s R F
  have hi : interactive f.env = false := by unfold interactive; rw [F.kind]; rfl
  refine wpAny_Try_except ?_
  refine oneX ?_
  rw [exec_Expr _ _ ep hi hs]
  refine wpAny_bind (wpAny_standAt (wpAny_bind ?_))
  refine wpAny_mono (methodX (Q := fun _ _ => False) P h R F (fun s1 fv first L1 H1 R1 F1 k1 st1 hP => ?_) hb hpos) (fun _ _ e => e.elim) fun _ _ e => e
  refine wpAny_call (codeAny_mono (call fv first L1 H1 s1 hP R1) ?_)
  rintro r s2 ⟨e, T, H2, rfl, R2, k2, st2, ne, nt, fl, hX⟩
  have F2 := F1.keeps k2
  refine caughtX hA R2 F2 fl hcl O (fun A' E' => ht A' E' _ _) fun A' E' s3 R3 F3 k3 st3 => ?_
  refine wpAny_mono (hsu A' _ _ L1 H1 e T H2 _ hP hX s3 R3 F3) (fun fl s4 ⟨L4, H4, R4, F4, k4, st4, q⟩ => ?_) fun _ _ e => e.elim
  refine ⟨L4, H4, R4, F4, ?_, st1.trans (st2.trans (st3.trans st4)), q⟩
  intro b ob hb Hb hn
  obtain ⟨⟨o1, a1, a2, a3⟩, b1⟩ := k1 b ob hb Hb hn
  obtain ⟨⟨o2, c1, c2, c3⟩, d1⟩ := k2 b o1 a1 b1 (by simp)
  obtain ⟨o3, e1, e2, e3⟩ := k3 b o2 (fun h => ne o1 (h ▸ a1) (h ▸ b1)) (fun h => nt o1 (h ▸ a1) (h ▸ b1)) c1 d1 hn
  obtain ⟨⟨o4, g1, g2, g3⟩, i1⟩ := k4 b o3 e1 d1 hn
  exact ⟨⟨o4, g1, g2.trans (e2.trans (c2.trans a2)), fun hf => (g3 hf).trans ((e3 hf).trans ((c3 hf).trans (a3 hf)))⟩, i1⟩
end

section
variable {C : Cx} {A : Around} {E : Value → Shared → Prop} {f : Fm} {L : Loc} {H Hx : AH}
open PySem.SeqAt PySem.MeetsSeq in
theorem P2.neBool {a b : Bool} {Q : Value → AH → Prop} (h : Q (.bool (a != b)) H) : P2 C A E (compareOp .NotEq) (.bool a) (.bool b) H Q := by
  intro a' b' ea eb s R
  have e := er_bool ea; subst e
  have e := er_bool eb; subst e
  exact RcNeAt.bool_bool a b C.prog C.w E _ (stay R h)
theorem opn_wg {a d0 d r : Addr} {ep : Nat} {g : Int → List Int} {W : List Int} {w0 : Int} {N : List Nd} {H' : AH} (G : GW' g W) (e : N.map pv = foldA (GG g W w0) []) (hbd : Bd (N.map pv) 1000) (k : ∀ b o, Hx b = some o → H b = some o ∧ ¬ Foot a d N b) (hr : H r = none) (O : Opn H' a d0 d ep r N (rdy0 (N.map pv)) 0 0) (old : ∀ b o, H b = some o → b ≠ a → H' b = some o) :
    Wg g (W ++ ringJ w0) (FootR a d r N) a d0 d ep r H' (rdy0 (N.map pv)) [] [] ∧ ∀ b o, Hx b = some o → H' b = some o ∧ ¬ FootR a d r N b := by
  have S := GG_SI (w0 := w0) G
  rw [← e] at S
  refine ⟨⟨⟨N, 0, 0, O, S, fun b => Iff.rfl, hbd⟩⟩, fun b o hb => ?_⟩
  obtain ⟨h1, h2⟩ := k b o hb
  refine ⟨old b o h1 fun e => h2 (.inl e), ?_⟩
  rintro (h3 | h3)
  · exact h2 h3
  · rw [h3, hr] at h1; cases h1
set_option maxHeartbeats 4000000 in
theorem bldC (X' : Ctx C) {k : Nat} (hA' : AIn C A (k + 2)) (hF : AF C A f) (FS0 : Frame f (fNames bldS)) {wa a d0 d : Addr} {g : Int → List Int} {W : List Int} {w0 : Int} (G : GW' g W) (S : Sg Hx H a d0 d (GG g W w0)) (hsz : szA (GG g W w0) < 900) (hw : Hx wa = some (.list (ivs W))) (h0 : W[0]? = some w0)
    (l1 : L "wanted" = some (.ref wa)) (l2 : L "ring" = some (.bool false)) (l3 : L "sorter" = some (.ref a)) {Q : Flow → Loc → AH → Prop}
    (h : ∀ (L' : Loc) (H' : AH) (ep : Nat) (r : Addr) (F : Addr → Prop) (rdy : List Int), (∀ x : Str, x ≠ "ring" → L' x = L x) → Wg g (W ++ ringJ w0) F a d0 d ep r H' rdy [] [] → (∀ b o, Hx b = some o → H' b = some o ∧ ¬ F b) → SWp C A f ((fBody bldS).drop 8) L' H' Q) : SWp C A f ((fBody bldS).drop 6) L H Q := by
  refine ⟨?_⟩
  have FS : Frame f (_ :: _) := FS0
  have O' := X'.O
  have e : (fBody bldS).drop 6 = (_ :: _) := rfl
  rw [e]
  clear e
  obtain ⟨N, ep, S1, eN, kN⟩ := S.ex
  have hbd : Bd (N.map pv) 1000 := by
    have hb := foldA_bd (GG g W w0) (P := []) (K := 0) fun x hx => by cases hx
    rw [← eN] at hb
    intro x hx
    have := hb x hx
    lia
  have hcl := GG_cl G eN S1.nv
  obtain ⟨w00, w06⟩ := G.r w0 (List.mem_of_getElem? h0)
  have hget : (ivs W)[(0 : Int).toNat]? = some (.int w0 0) := ivs_get h0
  refine SW.cons ?_
  have after : ∀ (b : Bool) (L1 : Loc) (H1 : AH) (r : Addr), (∀ x : Str, x ≠ "ring" → L1 x = L x) → L1 "ring" = some (.bool b) → b = decide (w0.toNat % 2 = 1) → H r = none → Opn H1 a d0 d ep r N (rdy0 (N.map pv)) 0 0 → (∀ b o, H b = some o → b ≠ a → H1 b = some o) → seqQ C A nx f ((fBody bldS).drop 7) Q .next L1 H1 := by
    intro b L1 H1 r hl hb hbv hr O old
    obtain ⟨W1, k1⟩ := opn_wg G eN hbd kN hr O old
    have k1w := (hl "wanted" (by decide)).trans l1
    have e : (fBody bldS).drop 7 = (_ :: _) := rfl
    rw [e]
    clear e
    walk_at "ww"
    refine Pe2.subList (k1 _ _ hw).1 (by decide) hget (by decide) ?_
    walk_at "ww"
    refine Pe2.mod (by decide) ?_
    rw [mod2 w00]
    walk_at "ww"
    refine P2.eq ?_
    refine P2.neBool ⟨_, rfl, ?_⟩
    have : (b != (((w0.toNat % 2 : Nat) : Int) == 1)) = false := by
      rw [hbv]
      by_cases q : w0.toNat % 2 = 1
      · rw [q]; rfl
      · have q0 : w0.toNat % 2 = 0 := by lia
        rw [q0]; rfl
    rw [this]
    refine ite_f ?_
    refine SW.nil ?_
    with_reducible refine seqQ.next ?_
    exact (h L1 H1 ep r _ _ hl W1 k1).go
  by_cases hod : w0.toNat % 2 = 1
  · have hrj : ringJ w0 = [6, 7] := by unfold ringJ; rw [if_pos hod]
    obtain ⟨hinc, hZ⟩ := GG_ring G hrj eN S1.nv
    refine XW.tryYes O' hF (cls := 55) (by walk_at "kk") (fun H1 e T H' h' => Bad C a d0 d ep N H1 e T H' h') (fun fv first L1 H1 => fv = .ref 92 ∧ first = [.ref a] ∧ L1 = L ∧ H1 = H) ?_ ?_ ?_ ?_
    · walk_at "ww"
      refine m_prepare X' S1.inst ?_
      exact ⟨k92 X', rfl, rfl, rfl, rfl⟩
    · rintro fv first L1 H1 s ⟨e1, e2, rfl, rfl⟩ R
      obtain ⟨v1, rfl, ev1⟩ := map1 e2
      cases er_ref e1
      cases er_ref ev1
      refine codeAny_mono (prepareBad X' (k := k) hA' S1 hcl hbd hinc hZ (by simp) R) ?_
      rintro r s' ⟨e, T, H', er, R', k', st', n1, n2, q⟩
      exact ⟨e, T, H', er, R', k', st', n1, n2, q.fl, q⟩
    · intro A1 E1 L1 H1
      walk_at "ww"
      exact ⟨rfl, rfl, rfl⟩
    · rintro A1 fv first L1 H1 e T H2 h' ⟨_, _, rfl, rfl⟩ q
      obtain ⟨r, hr, O⟩ := q.ex
      refine SW.cons ?_
      refine XW.set (EW.cbool ?_) rfl rfl rfl
      refine GW.local ((FS.kinds _).trans rfl) FS.loc ?_
      with_reducible refine seqQ.next ?_
      refine SW.nil ?_
      exact after true _ H2 r (fun x hx => setL_ne hx) setL_same (by rw [decide_eq_true hod]) hr O q.old
  · have hrj : ringJ w0 = [] := by unfold ringJ; rw [if_neg hod]
    refine XW.tryNo ?_
    walk_at "ww"
    refine m_prepare X' S1.inst ?_
    walk_at "ww"
    refine ⟨k92 X', CallP.fn fun vs' ev => ?_⟩
    obtain ⟨v1, rfl, ev1⟩ := map1 ev
    cases er_ref ev1
    refine PC.mono (prepareOk X' (k := k) hA' S1 hcl hbd (GG_inc G hrj eN S1.nv)) ?_
    rintro v H1 ⟨e1, r, hr, O, old⟩
    walk_at "ww"
    exact ⟨rfl, after false _ H1 r (fun x _ => rfl) l2 (by rw [decide_eq_false hod]) hr O old⟩
end

noncomputable def forBody : Stmt → List Stmt
  | .For _ _ b _ _ => b
  | _ => []
noncomputable def hourB : List Stmt := forBody (nth (fBody bldS) 9)
noncomputable def turnB : List Stmt := forBody (nth hourB 1)
noncomputable def givB : List Stmt := forBody (nth turnB 4)
set_option genInjectivity false in
structure Arg (c : Bc) (wa ra oa : Addr) (rl : Int → Addr) (rt : Int → List (Addr × Int × Int)) (W : List Int) (o : Int → Int) : Prop where
  hw : c.H0 wa = some (.list (ivs W))
  ho : c.H0 oa = some (.list (ivs (six.map o)))
  R : RcAt c.H0 ra rl rt
  v0 : ∃ xs, c.H0 c.va = some (.list xs)
  s0 : ∃ xs, c.H0 c.sa = some (.list xs)
  n : ∀ x ∈ [wa, oa, ra], x ≠ c.va ∧ x ≠ c.sa
  nl : ∀ t ∈ six, rl t ≠ c.va ∧ rl t ≠ c.sa
section
variable {c : Bc} {wa ra oa : Addr} {rl : Int → Addr} {rt : Int → List (Addr × Int × Int)} {W : List Int} {o : Int → Int} {ex : List Addr} {kp : List (Addr × AO)} {H : AH} {rdy U D : List Int} {mt : List (Addr × Int × Int)} {vs : Int → Int} {sp : Int → Option (Addr × List Int)}
theorem Arg.fw (a : Arg c wa ra oa rl rt W o) (B : BS c ex kp H rdy U D mt vs sp) : H wa = some (.list (ivs W)) := B.st _ _ a.hw (a.n wa (by simp)).1 (a.n wa (by simp)).2
theorem Arg.fo (a : Arg c wa ra oa rl rt W o) (B : BS c ex kp H rdy U D mt vs sp) : H oa = some (.list (ivs (six.map o))) := B.st _ _ a.ho (a.n oa (by simp)).1 (a.n oa (by simp)).2
theorem Arg.fr (a : Arg c wa ra oa rl rt W o) (B : BS c ex kp H rdy U D mt vs sp) : RcAt H ra rl rt := by
  obtain ⟨xs, hv⟩ := a.v0
  obtain ⟨ys, hs⟩ := a.s0
  refine ⟨B.st _ _ a.R.top (a.n ra (by simp)).1 (a.n ra (by simp)).2, fun t ht => B.st _ _ (a.R.each t ht) (a.nl t ht).1 (a.nl t ht).2, fun t ht p hp => ?_, a.R.len⟩
  have h := a.R.tup t ht p hp
  exact B.st _ _ h (by first | exact no_some (h) (hv) | exact no_some (hv) (h) | exact (no_some (h) (hv)).symm | exact (no_some (hv) (h)).symm | exact two_ne (h) (hv) (by intro q; cases q; done) | exact (two_ne (h) (hv) (by intro q; cases q; done)).symm | (intro e; rw [e, hv] at h; cases h)) (by first | exact no_some (h) (hs) | exact no_some (hs) (h) | exact (no_some (h) (hs)).symm | exact (no_some (hs) (h)).symm | exact two_ne (h) (hs) (by intro q; cases q; done) | exact (two_ne (h) (hs) (by intro q; cases q; done)).symm | (intro e; rw [e, hs] at h; cases h))
end
theorem sv_fset (sp : Int → Option (Addr × List Int)) (j : Int) (p : Addr) (xs : List Int) : fset (fun t => sv (sp t)) j (.ref p) = fun t => sv (fset sp j (some (p, xs)) t) := by
  funext t
  unfold fset
  split <;> rfl
theorem map_fset (sp : Int → Option (Addr × List Int)) (j : Int) (p : Addr) (xs : List Int) : (fun t => (fset sp j (some (p, xs)) t).map (·.2)) = fset (fun t => (sp t).map (·.2)) j (some xs) := by
  funext t
  unfold fset
  split <;> rfl
section
variable {C : Cx} {A : Around} {E : Value → Shared → Prop} {f : Fm} {L : Loc} {H : AH}
set_option maxHeartbeats 4000000 in
theorem givOk (X' : Ctx C) {k0 : Nat} (hA' : AIn C A (k0 + 2)) (FS0 : Frame f (fNames bldS)) {c : Bc} {wa ra oa : Addr} {rl : Int → Addr} {rt : Int → List (Addr × Int × Int)} {W : List Int} {o : Int → Int} (Ag : Arg c wa ra oa rl rt W o) {ld : Int → Int → Bool} {vs0 : Int → Int} {ss0 : Int → Option (List Int)} (Bo : BuildOk (rcOf rt) ld W vs0 ss0)
    {gt pl wl : Addr} {kp : List (Addr × AO)} {k : Int} {D ws0 given U : List Int} {mt : List (Addr × Int × Int)} {vs : Int → Int} {sp : Int → Option (Addr × List Int)}
    (B : BS c [pl, wl] kp H [] U D mt vs sp) (hpl : H pl = some (.list (ivs []))) (hwl : H wl = some (.list (ivs ws0))) (I : BI (rcOf rt) ld o W vs0 ss0 k D ws0 vs fun j => (sp j).map (·.2))
    (hgiv : ∀ j ∈ given, An4 (j ∈ W ∨ j = 6 ∨ j = 7) (j ∉ D) (j ∉ ws0) (∀ a ∈ gN (rcOf rt) j, a ∈ D)) (hnd : given.Nodup) (hlen : ws0.length + given.length ≤ 100)
    (l1 : L "own" = some (.ref oa)) (l2 : L "values" = some (.ref c.va)) (l3 : L "seen" = some (.ref c.sa)) (l4 : L "recipes" = some (.ref ra)) (l5 : L "passing" = some (.ref pl)) (l6 : L "waiting" = some (.ref wl)) {T : Flow → Loc → AH → Prop} (hgk : (gt, AO.tuple (ivs given)) ∈ kp)
    (h : ∀ (L' : Loc) (H' : AH) (sp' : Int → Option (Addr × List Int)) (ws ps : List Int), (∀ x : Str, x ≠ "thing" → x ≠ "parts" → L' x = L x) → BS c [pl, wl] kp H' [] U D mt vs sp' → H' pl = some (.list (ivs ps)) → H' wl = some (.list (ivs ws)) → (ws = ws0 ++ given.filter (chg (rcOf rt) o ss0)) → (ps = given.filter fun j => !chg (rcOf rt) o ss0 j) → BI (rcOf rt) ld o W vs0 ss0 k D ws vs (fun j => (sp' j).map (·.2)) →
      (∀ j ∈ ps, An5 (j ∈ W) (j ∉ D) (j ∉ ws) (chg (rcOf rt) o ss0 j = false) (hrB (rcOf rt) ld o W ss0 j = k)) → T .next L' H') : ∀ {p : Pos}, ForW C A f (.Name "thing" p) givB (fun H => H gt = some (.tuple (ivs given))) T (ivs given) L H := by
  intro pp
  have FS : Frame f (_ :: _) := FS0
  have O' := X'.O
  have e : givB = (_ :: _) := rfl
  rw [e]
  clear e
  refine ForW.invT (fun xs L1 H' => Ex5 fun (ks dn ws ps : List Int) (sp' : Int → Option (Addr × List Int)) => An10 (xs = ivs ks) (given = dn ++ ks) (∀ x : Str, x ≠ "thing" → x ≠ "parts" → L1 x = L x) (BS c [pl, wl] kp H' [] U D mt vs sp') (H' pl = some (.list (ivs ps))) (H' wl = some (.list (ivs ws))) (ws = ws0 ++ dn.filter (chg (rcOf rt) o ss0)) (ps = dn.filter fun j => !chg (rcOf rt) o ss0 j) (BI (rcOf rt) ld o W vs0 ss0 k D ws vs fun j => (sp' j).map (·.2))
    (∀ j ∈ ps, An5 (j ∈ W) (j ∉ D) (j ∉ ws) (chg (rcOf rt) o ss0 j = false) (hrB (rcOf rt) ld o W ss0 j = k))) ?_ ?_ ⟨given, [], ws0, [], sp, rfl, rfl, fun _ _ _ => rfl, B, hpl, hwl, by simp, rfl, I, by simp⟩
  · rintro L1 H1 ⟨ks, dn, ws, ps, sp', e1, e2, hl, B1, hp1, hw1, e3, e4, I1, hps⟩
    cases ks with
    | cons _ _ => cases e1
    | nil =>
      rw [List.append_nil] at e2
      subst e2
      exact h L1 H1 sp' ws ps hl B1 hp1 hw1 e3 e4 I1 hps
  rintro x xs L1 H1 T' hT' ⟨ks, dn, ws, ps, sp', e1, e2, hl, B1, hp1, hw1, e3, e4, I1, hps⟩
  cases ks with
  | nil => cases e1
  | cons j ks =>
  cases e1
  have hjg : j ∈ given := by rw [e2]; simp
  obtain ⟨hj, hjD, hjw0, hjg'⟩ := hgiv j hjg
  have hjdn : j ∉ dn := by
    have := hnd
    rw [e2, List.nodup_append] at this
    exact fun hm => this.2.2 j hm j List.mem_cons_self rfl
  have hjw : j ∉ ws := by
    rw [e3]
    intro hm
    rcases List.mem_append.mp hm with hm | hm
    · exact hjw0 hm
    · exact hjdn (List.mem_filter.mp hm).1
  have hjp : j ∉ ps := by rw [e4]; intro hm; exact hjdn (List.mem_filter.mp hm).1
  obtain ⟨hW, hparts, hss, hhr⟩ := I1.hand Bo hj hjD hjw hjg'
  obtain ⟨j0, j6⟩ := Bo.r j hW
  have hjs : j ∈ six := mem_six.mpr ⟨j0, j6⟩
  have k1 := (hl "own" (by decide) (by decide)).trans l1
  have k2 := (hl "values" (by decide) (by decide)).trans l2
  have k3 := (hl "seen" (by decide) (by decide)).trans l3
  have k4 := (hl "recipes" (by decide) (by decide)).trans l4
  have k5 := (hl "passing" (by decide) (by decide)).trans l5
  have k6 := (hl "waiting" (by decide) (by decide)).trans l6
  have R1 := Ag.fr B1
  change GW C A nx f _ (.int j 0) L1 H1 _
  walk_at "ww"
  refine Pe2.subList (Ag.fo B1) j0 (ivs_get (six_get o j0 j6)) (by lia) ?_
  walk_at "ww"
  refine ⟨show 1 ≤ sizeLine by decide, fun r1 hr1 => ?_⟩
  have B2 := B1.fresh (o := .list [.int (o j) 0]) hr1
  have hp2 := upd_fresh (o := .list [.int (o j) 0]) hr1 _ _ hp1
  have hw2 := upd_fresh (o := .list [.int (o j) 0]) hr1 _ _ hw1
  have hr2 := upd_self H1 r1 (.list [.int (o j) 0])
  generalize upd H1 r1 (.list [.int (o j) 0]) = H2 at B2 hp2 hw2 hr2 ⊢
  walk_at "ww"
  refine EW.lcompT hA'.hd FS.c rfl rfl rfl (by decide) (fun _ _ => rfl) ?_
  have R2 := Ag.fr B2
  walk_at "ww"
  refine Pe2.subList R2.top j0 (six_get _ j0 j6) (by lia) ?_
  refine ⟨(rt j).map fun p => (p.1, Value.int p.2.1 0, Value.int p.2.2 0), fun q => match q.2 with | (.int b _, .int s _) => .int (s * vs b) 0 | _ => .none, fun H => H (rl j) = some (.list ((rt j).map fun p => .ref p.1)), R2.each j hjs, ?_, fun H' g => g _ _ (R2.each j hjs), by rw [List.length_map]; exact Nat.le_trans (R2.len j hjs) (by decide), ?_, ?_, ?_⟩
  · rw [List.map_map]
    exact IterP.list hA'.hd
  · intro q hq
    obtain ⟨p, hp, rfl⟩ := List.mem_map.mp hq
    exact R2.tup j hjs p hp
  · intro f2 q L3 H3 hq FC2 g23 hl2 hx hy
    obtain ⟨p, hp, rfl⟩ := List.mem_map.mp hq
    have hpr : p.2 ∈ rcOf rt j := List.mem_map.mpr ⟨p, hp, rfl⟩
    have hlt := Bo.R.lt j j0 j6 _ hpr
    have hv3 : L3 "values" = some (.ref c.va) := (hl2 "values" rfl).trans ((setL_ne (by decide)).trans k2)
    walk_at "ww"
    refine Pe2.subList (g23 _ _ B2.hv) hlt.1 (ivs_get (six_get vs hlt.1 (by lia))) (by lia) ?_
    walk_at "ww"
    refine Pe2.mul (mulL ?_) ?_
    · rcases Bo.R.sg j j0 j6 _ hpr with e | e <;> rw [e] <;> decide
    exact ⟨rfl, .refl, rfl⟩
  intro r3 H3 g23 hr3 hr3'
  have B3 := B2.keep g23
  have hp3 := g23 _ _ hp2
  have hw3 := g23 _ _ hw2
  have hr23 := g23 _ _ hr2
  have hr3'' : H3 r3 = some (.list (ivs ((rcOf rt j).map fun p => p.2 * vs p.1))) := by
    rw [hr3', List.map_map]
    simp [ivs, rcOf, Function.comp_def]
  refine P2.addList hr23 hr3'' (by simp only [List.length_cons, List.length_nil, ivs_len, List.length_map, rcOf]; exact Nat.le_trans (Nat.add_le_add_left (R2.len j hjs) _) (by decide)) fun r4 hr4 => ?_
  have hpe : [Value.int (o j) 0] ++ ivs ((rcOf rt j).map fun p => p.2 * vs p.1) = ivs (parts (rcOf rt) o j) := by
    rw [← hparts]; rfl
  rw [hpe]
  have B4 := B3.fresh (o := .list (ivs (parts (rcOf rt) o j))) hr4
  have hp4 := upd_fresh (o := .list (ivs (parts (rcOf rt) o j))) hr4 _ _ hp3
  have hw4 := upd_fresh (o := .list (ivs (parts (rcOf rt) o j))) hr4 _ _ hw3
  have hr5 := upd_self H3 r4 (.list (ivs (parts (rcOf rt) o j)))
  have n4 : An3 (¬ c.F r4) (r4 ∉ c.mu [pl, wl]) (c.OK r4) := ⟨B3.W.fresh hr4, fun hm => B3.alive hm hr4 rfl, B3.ok _ (B3.h0 hr4)⟩
  show GW _ _ _ _ _ _ _ (upd H3 r4 (.list (ivs (parts (rcOf rt) o j)))) _
  generalize upd H3 r4 (.list (ivs (parts (rcOf rt) o j))) = H4 at B4 hp4 hw4 hr5 ⊢
  walk_at "ww"
  refine Pe2.subList B4.hs j0 (six_get _ j0 j6) (by lia) ?_
  walk_at "ww"
  refine P2.eqSeen hA'.room (fun p ys e => (B4.hp j p ys e).1) hr5 ⟨_, rfl, ?_⟩
  have hpw : ps.length + ws.length ≤ 100 := by
    have e5 : dn.length ≤ given.length := by rw [e2]; simp
    have e6 : ws.length + ps.length = ws0.length + dn.length := by
      rw [e3, e4, List.length_append]
      have : ∀ l : List Int, (l.filter (chg (rcOf rt) o ss0)).length + (l.filter fun j => !chg (rcOf rt) o ss0 j).length = l.length := by
        intro l
        induction l with
        | nil => rfl
        | cons a l ih =>
          cases e : chg (rcOf rt) o ss0 a with
          | true => rw [List.filter_cons_of_pos e, List.filter_cons_of_neg (by simp [e])]; simp only [List.length_cons]; lia
          | false => rw [List.filter_cons_of_neg (by simp [e]), List.filter_cons_of_pos (by simp [e])]; simp only [List.length_cons]; lia
      have := this dn
      lia
    lia
  have hcb : decide ((sp' j).map (·.2) = some (parts (rcOf rt) o j)) = !chg (rcOf rt) o ss0 j := by
    rw [show (sp' j).map (·.2) = ss0 j from hss]
    unfold chg
    by_cases q : ss0 j = some (parts (rcOf rt) o j) <;> simp [q]
  rw [hcb]
  cases ec : chg (rcOf rt) o ss0 j with
  | true =>
    refine ite_f ?_
    walk_at "ww"
    intro o' i' v' eo ei ev'
    cases er_ref eo
    obtain ⟨ti, rfl⟩ := er_int ei
    refine setList B4.hs j0 (by rw [List.length_map, six_len]; lia) (by lia) ?_
    rw [ev', six_set _ _ j0 j6]
    have hsf := sv_fset sp' j r4 (parts (rcOf rt) o j)
    rw [show er (Value.ref r4) = .ref r4 from rfl, hsf]
    have B5 := B4.setS (t := j) hr5 n4.1 n4.2 n4.3
    have hp5 : upd H4 c.sa (.list (six.map fun t => sv (fset sp' j (some (r4, parts (rcOf rt) o j)) t))) pl = some (.list (ivs ps)) := (upd_ne _ _ (nm_ne (Bc.nd7 B4.nd).5 List.mem_cons_self)).trans hp4
    have hw5 : upd H4 c.sa (.list (six.map fun t => sv (fset sp' j (some (r4, parts (rcOf rt) o j)) t))) wl = some (.list (ivs ws)) := (upd_ne _ _ (nm_ne (Bc.nd7 B4.nd).5 (List.mem_cons_of_mem _ List.mem_cons_self))).trans hw4
    generalize upd H4 c.sa (.list (six.map fun t => sv (fset sp' j (some (r4, parts (rcOf rt) o j)) t))) = H5 at B5 hp5 hw5 ⊢
    have npw : pl ≠ wl := nd_two (Bc.nd7 B5.nd).7
    walk_at "ww"
    refine MethP.list hw5 F.slot_list_append F.type_list_append ?_
    walk_at "ww"
    refine ⟨KeepOk.builtin, CallP.lappend hw5 (by rw [ivs_len]; exact Nat.le_trans (show ws.length ≤ 1000 by lia) (by decide)) ?_⟩
    have hx : ivs ws ++ [Value.int j 0] = ivs (ws ++ [j]) := by simp [ivs]
    rw [hx]
    have B6 := B5.setE (x := wl) (by simp) (ivs (ws ++ [j]))
    walk_at "ww"
    refine hT' _ _ _ ⟨(B6.ks _ hgk).1, ks, dn ++ [j], ws ++ [j], ps, _, rfl, by rw [e2]; simp, fun x h1 h2 => ?_, B6, (upd_ne _ _ npw).trans hp5, upd_self .., ?_, ?_, ?_, ?_⟩
    · rw [setL_ne h2, setL_ne h1]; exact hl x h1 h2
    · rw [e3, List.filter_append, List.append_assoc]
      congr 2
      rw [List.filter_cons_of_pos ec]; rfl
    · rw [e4, List.filter_append, List.filter_cons_of_neg (by simp [ec])]; simp
    · rw [map_fset]
      exact I1.wait hW hjD ec hhr
    · intro i hi
      obtain ⟨x1, x2, x3, x4, x5⟩ := hps i hi
      refine ⟨x1, x2, fun hm => ?_, x4, x5⟩
      rcases List.mem_append.mp hm with hm | hm
      · exact x3 hm
      · rw [List.mem_singleton.mp hm] at hi; exact hjp hi
  | false =>
    refine ite_t ?_
    have npw : wl ≠ pl := (nd_two (Bc.nd7 B4.nd).7).symm
    walk_at "ww"
    refine MethP.list hp4 F.slot_list_append F.type_list_append ?_
    walk_at "ww"
    refine ⟨KeepOk.builtin, CallP.lappend hp4 (by rw [ivs_len]; exact Nat.le_trans (show ps.length ≤ 1000 by lia) (by decide)) ?_⟩
    have hx : ivs ps ++ [Value.int j 0] = ivs (ps ++ [j]) := by simp [ivs]
    rw [hx]
    have B6 := B4.setE (x := pl) (by simp) (ivs (ps ++ [j]))
    walk_at "ww"
    refine hT' _ _ _ ⟨(B6.ks _ hgk).1, ks, dn ++ [j], ws, ps ++ [j], _, rfl, by rw [e2]; simp, fun x h1 h2 => ?_, B6, upd_self .., (upd_ne _ _ npw).trans hw4, ?_, ?_, I1, ?_⟩
    · rw [setL_ne h2, setL_ne h1]; exact hl x h1 h2
    · rw [e3, List.filter_append, List.filter_cons_of_neg (by simp [ec])]; simp
    · rw [e4, List.filter_append]
      congr 1
      rw [List.filter_cons_of_pos (by simp [ec])]; rfl
    · intro i hi
      rcases List.mem_append.mp hi with hi | hi
      · exact hps i hi
      · rw [List.mem_singleton.mp hi]
        exact ⟨hW, hjD, hjw, ec, hhr⟩
end

section
variable {c : Bc} {ex : List Addr} {kp : List (Addr × AO)} {H : AH} {rdy U D : List Int} {mt : List (Addr × Int × Int)} {vs : Int → Int} {sp : Int → Option (Addr × List Int)} {W : List Int} {w0 : Int} {rc : Int → List (Int × Int)}
theorem mem_js {j : Int} (h : j ∈ W ++ ringJ w0) : j ∈ W ∨ j = 6 ∨ j = 7 := by
  rcases List.mem_append.mp h with h | h
  · exact .inl h
  · unfold ringJ at h
    split at h
    · simp only [List.mem_cons, List.not_mem_nil, or_false] at h; exact .inr h
    · cases h
theorem js_len (hW : W.length ≤ 6) : (W ++ ringJ w0).length ≤ 8 := by
  rw [List.length_append]
  unfold ringJ
  split <;> simp <;> lia
theorem BS.si (B : BS c ex kp H rdy U D mt vs sp) (hg : c.g = gN rc) (hj : c.js = W ++ ringJ w0) : An5 (∀ j ∈ rdy, An4 (j ∈ W ∨ j = 6 ∨ j = 7) (j ∉ D) (j ∉ U) (∀ a ∈ gN rc j, a ∈ D)) rdy.Nodup U.Nodup D.Nodup (rdy = [] → ∀ t ∈ W, t ∉ D → t ∉ U → ∃ a ∈ gN rc t, a ∉ D) := by
  obtain ⟨P, p, q, S⟩ := B.W.si
  rw [hg, hj] at S
  have nu := S.nu
  rw [List.append_assoc, List.nodup_append, List.nodup_append] at nu
  refine ⟨fun j hj => ?_, nu.1, nu.2.1.1, nu.2.1.2.1, fun e t hW hD hU => ?_⟩
  · obtain ⟨h1, h2, h3, h4⟩ := (S.rd j).mp hj
    exact ⟨mem_js h1, h3, h2, h4⟩
  · refine Classical.byContradiction fun hn => ?_
    have : t ∈ rdy := (S.rd t).mpr ⟨List.mem_append_left _ hW, hU, hD, fun a ha => Classical.byContradiction fun h => hn ⟨a, ha, h⟩⟩
    rw [e] at this; cases this
end
section
variable {C : Cx} {A : Around} {E : Value → Shared → Prop} {f : Fm} {L : Loc} {H : AH}
theorem ite_nx {P Q : Prop} {b : Bool} (hb : b = false) (h : Q) : if b = true then P else Q := by rw [hb]; exact ite_f h
set_option maxHeartbeats 4000000 in
theorem turnsOk (X' : Ctx C) {k0 : Nat} (hA' : AIn C A (k0 + 2)) (FS0 : Frame f (fNames bldS)) {c : Bc} {wa ra oa : Addr} {rl : Int → Addr} {rt : Int → List (Addr × Int × Int)} {W : List Int} {w0 : Int} {o : Int → Int} (Ag : Arg c wa ra oa rl rt W o) {ld : Int → Int → Bool} {vs0 : Int → Int} {ss0 : Int → Option (List Int)} (Bo : BuildOk (rcOf rt) ld W vs0 ss0)
    (hcg : c.g = gN (rcOf rt)) (hcj : c.js = W ++ ringJ w0) (hWl : W.length ≤ 6) (hirr : ∀ j, j ∈ c.js → j ∉ c.g j)
    {wl : Addr} {kp : List (Addr × AO)} {k : Int} {D rdy ks : List Int} {M : List (Int × Int)} {mt : List (Addr × Int × Int)} {vs : Int → Int} {sp : Int → Option (Addr × List Int)}
    (B : BS c [wl] kp H rdy [] D mt vs sp) (hwl : H wl = some (.list (ivs []))) (I : BI (rcOf rt) ld o W vs0 ss0 k D [] vs fun j => (sp j).map (·.2)) (m : Md (rcOf rt) ld o W ss0 D M) (hks : ks.length = W.length + 1)
    (l1 : L "own" = some (.ref oa)) (l2 : L "values" = some (.ref c.va)) (l3 : L "seen" = some (.ref c.sa)) (l4 : L "recipes" = some (.ref ra)) (l5 : L "sorter" = some (.ref c.a)) (l6 : L "waiting" = some (.ref wl)) {T : Flow → Loc → AH → Prop} {rr : Addr} {ro : AO} (hrk : (rr, ro) ∈ kp)
    (h : ∀ (L' : Loc) (H' : AH) (D' ws : List Int) (sp' : Int → Option (Addr × List Int)), (∀ x : Str, x ∉ (["turn", "active", "given", "passing", "thing", "parts"] : List Str) → L' x = L x) → BS c [wl] kp H' [] ws D' mt vs sp' → H' wl = some (.list (ivs ws)) → BI (rcOf rt) ld o W vs0 ss0 k D' ws vs (fun j => (sp' j).map (·.2)) → Md (rcOf rt) ld o W ss0 D' M → T .next L' H') : ∀ {p : Pos}, ForW C A f (.Name "turn" p) turnB (fun H => H rr = some ro) T (ivs ks) L H := by
  intro pp
  have FS : Frame f (_ :: _) := FS0
  have O' := X'.O
  have e : turnB = (_ :: _) := rfl
  rw [e]
  clear e
  have hjl : c.js.length ≤ 1000 := by rw [hcj]; exact Nat.le_trans (js_len hWl) (by decide)
  refine ForW.invT (fun xs L1 H' => Ex6 fun (ks' : List Int) (i : Nat) (D ws rdy : List Int) (sp' : Int → Option (Addr × List Int)) => An8 (xs = ivs ks') (ks'.length + i = W.length + 1) (i ≤ D.length) (∀ x : Str, x ∉ (["turn", "active", "given", "passing", "thing", "parts"] : List Str) → L1 x = L x) (BS c [wl] kp H' rdy ws D mt vs sp') (H' wl = some (.list (ivs ws))) (BI (rcOf rt) ld o W vs0 ss0 k D ws vs fun j => (sp' j).map (·.2)) (Md (rcOf rt) ld o W ss0 D M)) ?_ ?_ ⟨ks, 0, D, [], rdy, sp, rfl, by lia, Nat.zero_le _, fun _ _ => rfl, B, hwl, I, m⟩
  · rintro L1 H1 ⟨ks', i, D1, ws, rdy1, sp1, e1, e2, e3, hl, B1, hw1, I1, m1⟩
    cases ks' with
    | cons _ _ => cases e1
    | nil =>
      have h1 := nodup_len (B1.si hcg hcj).4 (m := W) fun x hx => (I1.dn x hx).1
      simp only [List.length_nil] at e2
      lia
  rintro x xs L1 H1 T' hT' ⟨ks', i, D1, ws, rdy1, sp1, e1, e2, e3, hl, B1, hw1, I1, m1⟩
  cases ks' with
  | nil => cases e1
  | cons j ks' =>
  cases e1
  obtain ⟨hgiv, nr, nw, nD, _⟩ := B1.si hcg hcj
  have k1 := (hl "own" (by decide)).trans l1
  have k2 := (hl "values" (by decide)).trans l2
  have k3 := (hl "seen" (by decide)).trans l3
  have k4 := (hl "recipes" (by decide)).trans l4
  have k5 := (hl "sorter" (by decide)).trans l5
  have k6 := (hl "waiting" (by decide)).trans l6
  have hrl : rdy1.length ≤ 8 := Nat.le_trans B1.W.len.1 (by rw [hcj]; exact js_len hWl)
  have hwsl : ws.length ≤ 6 := Nat.le_trans (nodup_len nw (m := W) fun x hx => (I1.wt x hx).1) hWl
  change GW C A nx f _ (.int j 0) L1 H1 _
  have hA1 : AIn C A (k0 + 1 + 1) := hA'
  obtain ⟨p1, q1, hI1⟩ := B1.W.inst
  walk_at "ww"
  refine m_active X' hI1 ?_
  walk_at "ww"
  refine ⟨k106 X', c_activeG X' hA1 hjl B1.W ?_⟩
  walk_at "ww"
  refine m_ready X' hI1 ?_
  walk_at "ww"
  refine ⟨k99 X', c_readyG X' hA1 hjl B1.W fun gt H2 hgt0 hgt nF2 W2 F2 => ?_⟩
  have B2 := B1.sort W2 F2
  have hw2 := F2 _ _ hw1 (B1.nF _ (by simp [Bc.mu]))
  have hnames : ∀ (L4 : Loc), (∀ x : Str, x ∉ (["turn", "active", "given", "passing", "thing", "parts"] : List Str) → L4 x = L x) → An6 (L4 "own" = some (.ref oa)) (L4 "values" = some (.ref c.va)) (L4 "seen" = some (.ref c.sa)) (L4 "recipes" = some (.ref ra)) (L4 "sorter" = some (.ref c.a)) (L4 "waiting" = some (.ref wl)) := fun L4 h4 =>
    ⟨(h4 "own" (by decide)).trans l1, (h4 "values" (by decide)).trans l2, (h4 "seen" (by decide)).trans l3, (h4 "recipes" (by decide)).trans l4, (h4 "sorter" (by decide)).trans l5, (h4 "waiting" (by decide)).trans l6⟩
  have after : ∀ (L4 : Loc) (H4 : AH), (∀ x : Str, x ∉ (["turn", "active", "given", "passing", "thing", "parts"] : List Str) → L4 x = L x) → L4 "given" = some (.ref gt) → BS c [wl] kp H4 [] (ws ++ rdy1) D1 mt vs sp1 → H4 wl = some (.list (ivs ws)) → H4 gt = some (.tuple (ivs rdy1)) → seqQ C A nx f (turnB.drop 3) T' .next L4 H4 := by
    intro L4 H4 h4 hgv B4 hw4 hgt4
    obtain ⟨n1, n2, n3, n4, n5, n6⟩ := hnames L4 h4
    have e : turnB.drop 3 = (_ :: _) := rfl
    rw [e]
    clear e
    walk_at "ww"
    refine ⟨Nat.zero_le _, fun pl hpl => ?_⟩
    have B5 := (B4.addK hgt4 nF2 (by simp)).addE hpl (B4.h0 hpl) []
    have hw5 := upd_fresh (o := .list []) hpl _ _ hw4
    have hp5 := upd_self H4 pl (.list [])
    generalize upd H4 pl (.list []) = H5 at B5 hw5 hp5 ⊢
    walk_at "ww"
    refine XW.for ?_
    walk_at "ww"
    refine ⟨ivs rdy1, fun H => H gt = some (.tuple (ivs rdy1)), (B5.ks (gt, .tuple (ivs rdy1)) List.mem_cons_self).1, IterP.tuple hA'.hd, ?_⟩
    have hgl : givB = (_ :: _) := rfl
    refine givOk X' hA' FS0 Ag Bo B5 hp5 hw5 I1 (fun j hj => ?_) nr (by lia) ((setL_ne (by decide)).trans n1) ((setL_ne (by decide)).trans n2) ((setL_ne (by decide)).trans n3) ((setL_ne (by decide)).trans n4) setL_same ((setL_ne (by decide)).trans n6) List.mem_cons_self ?_
    · exact hgiv j hj
    intro L6 H6 sp6 ws6 ps6 hl6 B6 hp6 hw6 e3 e4 I6 hps
    have h6 : ∀ x : Str, x ∉ (["turn", "active", "given", "passing", "thing", "parts"] : List Str) → L6 x = L x := fun x hx => by
      simp only [List.mem_cons, List.not_mem_nil, or_false, not_or] at hx
      rw [hl6 x hx.2.2.2.2.1 hx.2.2.2.2.2, setL_ne hx.2.2.2.1]
      exact h4 x (by simp only [List.mem_cons, List.not_mem_nil, or_false, not_or]; exact hx)
    have n7 : L6 "passing" = some (.ref pl) := (hl6 "passing" (by decide) (by decide)).trans setL_same
    have n8 := (hnames L6 h6).5
    walk_at "ww"
    refine ⟨Nat.zero_le _, fun z hz => ?_⟩
    have B7 := B6.fresh (o := .list []) hz
    have hp7 := upd_fresh (o := .list []) hz _ _ hp6
    have hw7 := upd_fresh (o := .list []) hz _ _ hw6
    have hz7 := upd_self H6 z (.list [])
    generalize upd H6 z (.list []) = H7 at B7 hp7 hw7 hz7 ⊢
    refine P2.eqNil hA'.room hp7 hz7 ⟨_, rfl, ?_⟩
    rw [ivs_nil]
    cases hps6 : ps6 with
    | nil =>
      rw [hps6] at e4
      have hall : rdy1.filter (chg (rcOf rt) o ss0) = rdy1 := List.filter_eq_self.mpr fun j hj => by
        cases e : chg (rcOf rt) o ss0 j with
        | true => rfl
        | false =>
          have : j ∈ rdy1.filter fun j => !chg (rcOf rt) o ss0 j := List.mem_filter.mpr ⟨hj, by simp [e]⟩
          rw [← e4] at this; cases this
      rw [hall] at e3
      rw [← e3] at B7
      refine ite_t ?_
      walk_at "ww"
      exact seqQ.brk (hT' .brk _ _ (turnQ.brk (h L6 H7 D1 ws6 sp6 h6 B7.dropK.dropE hw7 I6 m1)))
    | cons q qs =>
      rw [← hps6, show ps6.isEmpty = false by rw [hps6]; rfl]
      refine ite_f ?_
      refine SW.nil ?_
      obtain ⟨p7, q7, hI7⟩ := B7.W.inst
      walk_at "ww"
      refine EW.methodL ?_
      walk_at "ww"
      refine bm_done X' hI7 fun mm hm => ?_
      walk_at "ww"
      have hpl6 : ps6.length ≤ 8 := by
        rw [e4]; exact Nat.le_trans (List.length_filter_le _ _) hrl
      refine StarP.list ((Ge.upd hm) _ _ hp7) (by rw [ivs_len]; exact Nat.le_trans hpl6 (by decide)) ?_
      have hperm : (ws ++ rdy1).Perm (ps6 ++ ws6) := by
        rw [e3, e4]
        refine ((part_perm (chg (rcOf rt) o ss0) rdy1).symm.append_left ws).trans ?_
        rw [← List.append_assoc, ← List.append_assoc]
        exact List.perm_append_comm.append_right _
      refine ⟨KeepOk.meth O' (upd_self ..) (fn120 X'), c_donesG X' hA1 hjl hirr (B7.W.ge (.upd hm)) (upd_self ..) hperm fun rdy8 H8 W8 F8 => ?_⟩
      have B8 := (B7.fresh (o := .obj (methodObj (.ref 120) (.ref c.a))) hm).sort W8 F8
      have hw8 := F8 _ _ (upd_fresh (o := .obj (methodObj (.ref 120) (.ref c.a))) hm _ _ hw7) (B8.nF wl (by simp [Bc.mu]))
      walk_at "ww"
      have hD8 : ∀ t, t ∈ ps6.reverse ++ D1 ↔ t ∈ ps6 ∨ t ∈ D1 := fun t => by simp
      refine hT' .next _ _ ⟨((B8.dropK).ks _ hrk).1, ks', i + 1, ps6.reverse ++ D1, ws6, rdy8, sp6, rfl, ?_, ?_, h6, B8.dropK.dropE, hw8, I6.pass Bo hD8 hps, m1.pass hD8 fun t ht => (hps t ht).4⟩
      · simp only [List.length_cons] at e2; lia
      · rw [List.length_append, List.length_reverse, hps6]; simp only [List.length_cons]; lia
  have h4 : ∀ x : Str, x ∉ (["turn", "active", "given", "passing", "thing", "parts"] : List Str) → setL (setL (setL L1 "turn" (.int j 0)) "active" (.bool (!ws.isEmpty || !rdy1.isEmpty))) "given" (.ref gt) x = L x := fun x hx => by
    have hx' := hx
    simp only [List.mem_cons, List.not_mem_nil, or_false, not_or] at hx'
    rw [setL_ne hx'.2.2.1, setL_ne hx'.2.1, setL_ne hx'.1]; exact hl x hx
  walk_at "ww"
  refine ⟨Nat.zero_le _, fun z hz => ?_⟩
  have B3 := B2.fresh (o := .tuple []) hz
  have hgt3 := upd_fresh (o := .tuple []) hz _ _ hgt
  have hw3 := upd_fresh (o := .tuple []) hz _ _ hw2
  have hz3 := upd_self H2 z (.tuple [])
  generalize upd H2 z (.tuple []) = H3 at B3 hgt3 hw3 hz3 ⊢
  refine P2.neTup0 hA'.room hgt3 hz3 ?_
  rw [ivs_nil]
  refine P1.truthy_bool ?_
  cases er1 : rdy1.isEmpty with
  | false =>
    refine ite_t ?_
    refine P2.isNotBool ⟨_, rfl, ?_⟩
    refine ite_nx (by cases ws.isEmpty <;> rfl) ?_
    refine SW.nil ?_
    rw [er1] at h4
    exact after _ _ h4 setL_same B3 hw3 hgt3
  | true =>
    refine ite_f ?_
    walk_at "ww"
    refine ⟨Nat.zero_le _, fun y hy => ?_⟩
    have B4 := B3.fresh (o := .list []) hy
    have hgt4 := upd_fresh (o := .list []) hy _ _ hgt3
    have hw4 := upd_fresh (o := .list []) hy _ _ hw3
    have hy4 := upd_self H3 y (.list [])
    generalize upd H3 y (.list []) = H4 at B4 hgt4 hw4 hy4 ⊢
    refine P2.neNil hA'.room hw4 hy4 ?_
    rw [ivs_nil]
    refine P2.isNotBool ⟨_, rfl, ?_⟩
    refine ite_nx (by cases ws.isEmpty <;> rfl) ?_
    refine SW.nil ?_
    rw [er1] at h4
    exact after _ _ h4 setL_same B4 hw4 hgt4
end

noncomputable def madeB : List Stmt := forBody (nth hourB 4)
noncomputable def ifBody : Stmt → List Stmt
  | .If _ b _ _ => b
  | _ => []
noncomputable def ifElse : Stmt → List Stmt
  | .If _ _ b _ => b
  | _ => []
noncomputable def doneB : List Stmt := forBody (nth (ifElse (nth hourB 5)) 0)
theorem ivs_set (xs : List Int) (i : Nat) (x : Int) : (ivs xs).set i (.int x 0) = ivs (xs.set i x) := by simp [ivs, List.map_set]
section
variable {C : Cx} {A : Around} {E : Value → Shared → Prop} {f : Fm} {L : Loc} {H : AH}
set_option maxHeartbeats 4000000 in
theorem madeOk (X' : Ctx C) {k0 : Nat} (hA' : AIn C A (k0 + 2)) (FS0 : Frame f (fNames bldS)) {c : Bc} {rt : Int → List (Addr × Int × Int)} {W : List Int} {o : Int → Int} {ld : Int → Int → Bool} {vs0 : Int → Int} {ss0 : Int → Option (List Int)} (Bo : BuildOk (rcOf rt) ld W vs0 ss0)
    {wl : Addr} {kp : List (Addr × AO)} {i : Nat} {D ws : List Int} {mt : List (Addr × Int × Int)} {vs : Int → Int} {sp : Int → Option (Addr × List Int)}
    (B : BS c [wl] kp H [] ws D mt vs sp) (hwl : H wl = some (.list (ivs ws))) (I : BI (rcOf rt) ld o W vs0 ss0 i D ws vs fun j => (sp j).map (·.2)) (hwn : ws.length ≤ 6) (hml : mt.length ≤ 6)
    (l2 : L "values" = some (.ref c.va)) (l3 : L "seen" = some (.ref c.sa)) (l5 : L "made" = some (.ref c.ma)) (l6 : L "hour" = some (.int i 0)) {T : Flow → Loc → AH → Prop}
    (h : ∀ (L' : Loc) (H' : AH) (mt' : List (Addr × Int × Int)) (vs' : Int → Int), (∀ x : Str, x ≠ "thing" → L' x = L x) → BS c [wl] kp H' [] ws D mt' vs' sp → H' wl = some (.list (ivs ws)) → (mt'.map (·.2) = mt.map (·.2) ++ ws.map fun t => ((i : Int), t)) → (∀ t, vs' t = if t ∈ ws then val (rcOf rt) o t else vs t) → T .next L' H') : ∀ {p : Pos}, ForW C A f (.Name "thing" p) madeB (fun H => H wl = some (.list (ivs ws))) T (ivs ws) L H := by
  intro pp
  have FS : Frame f (_ :: _) := FS0
  have O' := X'.O
  have e : madeB = (_ :: _) := rfl
  rw [e]
  clear e
  refine ForW.invT (fun xs L1 H' => Ex4 fun (ks dn : List Int) (mt' : List (Addr × Int × Int)) (vs' : Int → Int) => An7 (xs = ivs ks) (ws = dn ++ ks) (∀ x : Str, x ≠ "thing" → L1 x = L x) (BS c [wl] kp H' [] ws D mt' vs' sp) (H' wl = some (.list (ivs ws))) (mt'.map (·.2) = mt.map (·.2) ++ dn.map fun t => ((i : Int), t)) (∀ t, vs' t = if t ∈ dn then val (rcOf rt) o t else vs t)) ?_ ?_ ⟨ws, [], mt, vs, rfl, rfl, fun _ _ => rfl, B, hwl, by simp, by simp⟩
  · rintro L1 H1 ⟨ks, dn, mt1, vs1, e1, e2, hl, B1, hw1, em, ev⟩
    cases ks with
    | cons _ _ => cases e1
    | nil =>
      rw [List.append_nil] at e2
      subst e2
      exact h L1 H1 mt1 vs1 hl B1 hw1 em ev
  rintro x xs L1 H1 T' hT' ⟨ks, dn, mt1, vs1, e1, e2, hl, B1, hw1, em, ev⟩
  cases ks with
  | nil => cases e1
  | cons j ks =>
  cases e1
  have hjw : j ∈ ws := by rw [e2]; simp
  obtain ⟨hW, hjD, hsj, hcj, hhj⟩ := I.wt j hjw
  obtain ⟨j0, j6⟩ := Bo.r j hW
  have hml1 : mt1.length ≤ 12 := by
    have h1 := congrArg List.length em
    have h2 := congrArg List.length e2
    simp only [List.length_map, List.length_append] at h1 h2
    lia
  obtain ⟨p, hsp⟩ : ∃ p, sp j = some (p, parts (rcOf rt) o j) := by
    cases e : sp j with
    | none => rw [e] at hsj; cases hsj
    | some q =>
      obtain ⟨p, xs⟩ := q
      rw [e] at hsj
      cases hsj
      exact ⟨p, rfl⟩
  have k2 := (hl "values" (by decide)).trans l2
  have k3 := (hl "seen" (by decide)).trans l3
  have k5 := (hl "made" (by decide)).trans l5
  have k6 := (hl "hour" (by decide)).trans l6
  change GW C A nx f _ (.int j 0) L1 H1 _
  walk_at "ww"
  refine Pe2.subList B1.hs j0 (six_get _ j0 j6) (by lia) ?_
  rw [hsp]
  walk_at "ww"
  refine ⟨KeepOk.builtin, CallP.sumInts hA'.hd (B1.hp j p _ hsp).1 ?_⟩
  rw [parts_sum Bo.R o j0 j6]
  walk_at "ww"
  intro o' i' v' eo ei ev'
  cases er_ref eo
  obtain ⟨ti, rfl⟩ := er_int ei
  refine setList B1.hv j0 (by rw [ivs_len, List.length_map, six_len]; lia) (by lia) ?_
  rw [ev', ivs_set, six_set _ _ j0 j6]
  have B2 := B1.setV (fset vs1 j (val (rcOf rt) o j))
  have hw2 : upd H1 c.va (.list (ivs (six.map (fset vs1 j (val (rcOf rt) o j))))) wl = some (.list (ivs ws)) := (upd_ne _ _ (nm_ne (Bc.nd7 B1.nd).3 List.mem_cons_self)).trans hw1
  generalize upd H1 c.va (.list (ivs (six.map (fset vs1 j (val (rcOf rt) o j))))) = H2 at B2 hw2 ⊢
  walk_at "ww"
  refine MethP.list B2.hm F.slot_list_append F.type_list_append ?_
  walk_at "ww"
  refine ⟨show 2 ≤ sizeLine by decide, fun m hm => ?_⟩
  have B3 := B2.fresh (o := .tuple [.int i 0, .int j 0]) hm
  have hw3 := upd_fresh (o := .tuple [.int i 0, .int j 0]) hm _ _ hw2
  have hm3 := upd_self H2 m (.tuple [.int i 0, .int j 0])
  have nF := B2.W.fresh hm
  generalize upd H2 m (.tuple [.int i 0, .int j 0]) = H3 at B3 hw3 hm3 ⊢
  walk_at "ww"
  refine ⟨KeepOk.builtin, CallP.lappend B3.hm (by rw [List.length_map]; exact Nat.le_trans hml1 (by decide)) ?_⟩
  have B4 := B3.addM (m := (m, ((i : Int), j))) hm3 nF
  have hmm : (mt1.map fun m => Value.ref m.1) ++ [Value.ref m] = (mt1 ++ [(m, ((i : Int), j))]).map fun m => Value.ref m.1 := by simp
  rw [hmm]
  have hw4 : upd H3 c.ma (.list ((mt1 ++ [(m, ((i : Int), j))]).map fun m => .ref m.1)) wl = some (.list (ivs ws)) := (upd_ne _ _ (nm_ne (Bc.nd7 B3.nd).6 List.mem_cons_self)).trans hw3
  walk_at "ww"
  refine hT' _ _ _ ⟨hw4, ks, dn ++ [j], _, _, rfl, by rw [e2]; simp, fun x hx => (setL_ne hx).trans (hl x hx), B4, hw4, ?_, fun t => ?_⟩
  · rw [List.map_append, em, List.map_append, List.append_assoc]; rfl
  · unfold fset
    by_cases e : t = j
    · subst e; simp
    · rw [if_neg e, ev t]
      by_cases hd : t ∈ dn
      · rw [if_pos hd, if_pos (List.mem_append_left _ hd)]
      · rw [if_neg hd, if_neg (fun h => (List.mem_append.mp h).elim hd fun h => e (List.mem_singleton.mp h))]
set_option maxHeartbeats 4000000 in
theorem doneOkW (X' : Ctx C) {k0 : Nat} (hA' : AIn C A (k0 + 2)) (FS0 : Frame f (fNames bldS)) {c : Bc} (hjl : c.js.length ≤ 1000) (hirr : ∀ j, j ∈ c.js → j ∉ c.g j)
    {wl : Addr} {kp : List (Addr × AO)} {D ws : List Int} {mt : List (Addr × Int × Int)} {vs : Int → Int} {sp : Int → Option (Addr × List Int)}
    (B : BS c [wl] kp H [] ws D mt vs sp) (hwl : H wl = some (.list (ivs ws))) (l5 : L "sorter" = some (.ref c.a)) {T : Flow → Loc → AH → Prop}
    (h : ∀ (L' : Loc) (H' : AH) (rdy D' : List Int), (∀ x : Str, x ≠ "thing" → L' x = L x) → BS c [wl] kp H' rdy [] D' mt vs sp → (∀ t, t ∈ D' ↔ t ∈ ws ∨ t ∈ D) → T .next L' H') : ∀ {p : Pos}, ForW C A f (.Name "thing" p) doneB (fun H => H wl = some (.list (ivs ws))) T (ivs ws) L H := by
  intro pp
  have FS : Frame f (_ :: _) := FS0
  have O' := X'.O
  have e : doneB = (_ :: _) := rfl
  rw [e]
  clear e
  refine ForW.invT (fun xs L1 H' => Ex4 fun (ks dn rdy D' : List Int) => An6 (xs = ivs ks) (ws = dn ++ ks) (∀ x : Str, x ≠ "thing" → L1 x = L x) (BS c [wl] kp H' rdy ks D' mt vs sp) (H' wl = some (.list (ivs ws))) (∀ t, t ∈ D' ↔ t ∈ dn ∨ t ∈ D)) ?_ ?_ ⟨ws, [], [], D, rfl, rfl, fun _ _ => rfl, B, hwl, by simp⟩
  · rintro L1 H1 ⟨ks, dn, rdy1, D1, e1, e2, hl, B1, hw1, ed⟩
    cases ks with
    | cons _ _ => cases e1
    | nil =>
      rw [List.append_nil] at e2
      subst e2
      exact h L1 H1 rdy1 D1 hl B1 ed
  rintro x xs L1 H1 T' hT' ⟨ks, dn, rdy1, D1, e1, e2, hl, B1, hw1, ed⟩
  cases ks with
  | nil => cases e1
  | cons j ks =>
  cases e1
  have k5 := (hl "sorter" (by decide)).trans l5
  have hA1 : AIn C A (k0 + 1 + 1) := hA'
  change GW C A nx f _ (.int j 0) L1 H1 _
  obtain ⟨p1, q1, hI1⟩ := B1.W.inst
  walk_at "ww"
  refine m_done X' hI1 ?_
  walk_at "ww"
  refine ⟨k120 X', c_doneG X' hA1 hjl hirr B1.W (.refl _) fun rdy2 H2 W2 F2 => ?_⟩
  have hw2 := F2 _ _ hw1 (B1.nF _ (by simp [Bc.mu]))
  walk_at "ww"
  refine hT' _ _ _ ⟨hw2, ks, dn ++ [j], rdy2, j :: D1, rfl, by rw [e2]; simp, fun x hx => (setL_ne hx).trans (hl x hx), B1.sort W2 F2, hw2, fun t => ?_⟩
  rw [List.mem_cons, ed, List.mem_append, List.mem_singleton]
  constructor
  · rintro (h | h | h)
    · exact .inl (.inr h)
    · exact .inl (.inl h)
    · exact .inr h
  · rintro ((h | h) | h)
    · exact .inr (.inl h)
    · exact .inl h
    · exact .inr (.inr h)
end

noncomputable def hourN : List Str := ["hour", "waiting", "turn", "active", "given", "passing", "thing", "parts"]
section
variable {C : Cx} {A : Around} {E : Value → Shared → Prop} {f : Fm} {L : Loc} {H : AH}
set_option maxHeartbeats 4000000 in
theorem hoursOk (X' : Ctx C) {k0 : Nat} (hA' : AIn C A (k0 + 2)) (FS0 : Frame f (fNames bldS)) {c : Bc} {wa ra oa : Addr} {rl : Int → Addr} {rt : Int → List (Addr × Int × Int)} {W : List Int} {w0 : Int} {o : Int → Int} (Ag : Arg c wa ra oa rl rt W o) {ld : Int → Int → Bool} {vs0 : Int → Int} {ss0 : Int → Option (List Int)} (Bo : BuildOk (rcOf rt) ld W vs0 ss0)
    (hcg : c.g = gN (rcOf rt)) (hcj : c.js = W ++ ringJ w0) (hWl : W.length ≤ 6) (hirr : ∀ j, j ∈ c.js → j ∉ c.g j)
    {kp : List (Addr × AO)} {rdy0 : List Int} {sp0 : Int → Option (Addr × List Int)}
    (B : BS c [] kp H rdy0 [] [] [] vs0 sp0) (hss : ss0 = fun j => (sp0 j).map (·.2))
    (l0 : L "wanted" = some (.ref wa)) (l1 : L "own" = some (.ref oa)) (l2 : L "values" = some (.ref c.va)) (l3 : L "seen" = some (.ref c.sa)) (l4 : L "recipes" = some (.ref ra)) (l5 : L "sorter" = some (.ref c.a)) (l6 : L "made" = some (.ref c.ma)) {rr : Addr} {ro : AO} (hrk : (rr, ro) ∈ kp) {T : Flow → Loc → AH → Prop}
    (h : ∀ (L' : Loc) (H' : AH) (k : Int) (rdy D : List Int) (mt : List (Addr × Int × Int)) (vs : Int → Int) (sp : Int → Option (Addr × List Int)), (∀ x : Str, x ∉ hourN → L' x = L x) → BS c [] kp H' rdy [] D mt vs sp → BI (rcOf rt) ld o W vs0 ss0 k D [] vs (fun j => (sp j).map (·.2)) → Md (rcOf rt) ld o W ss0 D (mt.map (·.2)) → (∀ t ∈ W, t ∈ D) → T .next L' H') : ∀ {p : Pos}, ForW C A f (.Name "hour" p) hourB (fun H => H rr = some ro) T (ivs (up 0 (W.length + 1))) L H := by
  intro pp
  have FS : Frame f (_ :: _) := FS0
  have O' := X'.O
  have e : hourB = (_ :: _) := rfl
  rw [e]
  clear e
  have hjl : c.js.length ≤ 1000 := by rw [hcj]; exact Nat.le_trans (js_len hWl) (by decide)
  refine ForW.invT (fun xs L1 H' => Ex6 fun (i n : Nat) (D rdy : List Int) (mt : List (Addr × Int × Int)) (q : (Int → Int) × (Int → Option (Addr × List Int))) => An7 (xs = ivs (up i n)) (i + n = W.length + 1) (i ≤ mt.length) (∀ x : Str, x ∉ hourN → L1 x = L x) (BS c [] kp H' rdy [] D mt q.1 q.2) (BI (rcOf rt) ld o W vs0 ss0 i D [] q.1 fun j => (q.2 j).map (·.2)) (Md (rcOf rt) ld o W ss0 D (mt.map (·.2)))) ?_ ?_ ⟨0, W.length + 1, [], rdy0, [], (vs0, sp0), rfl, by lia, Nat.zero_le _, fun _ _ => rfl, B, by rw [hss]; exact BI.start (by rw [← hss]; exact Bo), ⟨[], rfl, .nil, by simp⟩⟩
  · rintro L1 H1 ⟨i, n, D1, rdy1, mt1, ⟨vs1, sp1⟩, e1, e2, e3, hl, B1, I1, m1⟩
    cases n with
    | succ _ => cases e1
    | zero =>
      have := m1.len fun t ht => (I1.dn t ht).1
      rw [List.length_map] at this
      lia
  rintro x xs L1 H1 T' hT' ⟨i, n, D1, rdy1, mt1, ⟨vs1, sp1⟩, e1, e2, e3, hl, B1, I1, m1⟩
  cases n with
  | zero => cases e1
  | succ n =>
  obtain ⟨rfl, rfl⟩ := up_eq e1
  have hml : mt1.length ≤ 6 := by
    have := m1.len fun t ht => (I1.dn t ht).1
    rw [List.length_map] at this; lia
  have k0' := (hl "wanted" (by decide)).trans l0
  have k1 := (hl "own" (by decide)).trans l1
  have k2 := (hl "values" (by decide)).trans l2
  have k3 := (hl "seen" (by decide)).trans l3
  have k4 := (hl "recipes" (by decide)).trans l4
  have k5 := (hl "sorter" (by decide)).trans l5
  have k6 := (hl "made" (by decide)).trans l6
  walk_at "ww"
  refine ⟨Nat.zero_le _, fun wl hwl0 => ?_⟩
  have B2 := B1.addE hwl0 (B1.h0 hwl0) []
  have hwl2 := upd_self H1 wl (.list [])
  generalize upd H1 wl (.list []) = H2 at B2 hwl2 ⊢
  walk_at "ww"
  refine XW.for ?_
  walk_at "ww"
  refine ⟨KeepOk.builtin, CallP.lenList (Ag.fw B2) (by rw [ivs_len]; lia) ?_⟩
  rw [ivs_len]
  walk_at "ww"
  refine Pe2.add ?_
  rw [show ((W.length : Int) + 1) = ((W.length + 1 : Nat) : Int) from rfl]
  walk_at "ww"
  refine ⟨KeepOk.type, CallP.range1 fun r2 hr2 => ?_⟩
  have B3 := (B2.fresh (o := .range 0 ((W.length + 1 : Nat) : Int) 1) hr2).addK (upd_self ..) (B2.W.fresh hr2) (by simp)
  have hwl3 := upd_fresh (o := .range 0 ((W.length + 1 : Nat) : Int) 1) hr2 _ _ hwl2
  generalize upd H2 r2 (.range 0 ((W.length + 1 : Nat) : Int) 1) = H3 at B3 hwl3 ⊢
  refine ⟨ivs (jl (W.length + 1)), fun H => H r2 = some (.range 0 ((W.length + 1 : Nat) : Int) 1), (B3.ks (r2, _) List.mem_cons_self).1, range_up (W.length + 1) ▸ IterP.range hA'.hd (small_up (by lia)), ?_⟩
  refine turnsOk X' hA' FS0 Ag Bo hcg hcj hWl hirr B3 hwl3 I1 m1 (by rw [len_jl]) ((setL_ne (by decide)).trans ((setL_ne (by decide)).trans k1)) ((setL_ne (by decide)).trans ((setL_ne (by decide)).trans k2)) ((setL_ne (by decide)).trans ((setL_ne (by decide)).trans k3)) ((setL_ne (by decide)).trans ((setL_ne (by decide)).trans k4)) ((setL_ne (by decide)).trans ((setL_ne (by decide)).trans k5)) setL_same List.mem_cons_self ?_
  intro L4 H4 D4 ws sp4 h4 B4' hw4 I4 m4
  have B4 := B4'.dropK
  clear B4'
  have n4 : ∀ x : Str, x ∉ hourN → L4 x = L x := fun x hx => by
    have hx' := hx
    simp only [hourN, List.mem_cons, List.not_mem_nil, or_false, not_or] at hx'
    rw [h4 x (by simp only [List.mem_cons, List.not_mem_nil, or_false, not_or]; exact hx'.2.2), setL_ne hx'.2.1, setL_ne hx'.1]
    exact hl x hx
  have nh : L4 "hour" = some (.int i 0) := (h4 "hour" (by decide)).trans ((setL_ne (by decide)).trans setL_same)
  have nw : L4 "waiting" = some (.ref wl) := (h4 "waiting" (by decide)).trans setL_same
  have ns : L4 "sorter" = some (.ref c.a) := (n4 "sorter" (by decide)).trans l5
  obtain ⟨_, _, nwd, _, hrd⟩ := B4.si hcg hcj
  have hwsl : ws.length ≤ 6 := Nat.le_trans (nodup_len nwd (m := W) fun x hx => (I4.wt x hx).1) hWl
  have hA1 : AIn C A (k0 + 1 + 1) := hA'
  obtain ⟨p4, q4, hI4⟩ := B4.W.inst
  walk_at "ww"
  refine m_active X' hI4 ?_
  walk_at "ww"
  refine ⟨k106 X', c_activeG X' hA1 hjl B4.W ?_⟩
  walk_at "ww"
  refine ⟨Nat.zero_le _, fun z hz => ?_⟩
  have B5 := B4.fresh (o := .list []) hz
  have hw5 := upd_fresh (o := .list []) hz _ _ hw4
  have hz5 := upd_self H4 z (.list [])
  generalize upd H4 z (.list []) = H5 at B5 hw5 hz5 ⊢
  refine P2.neNil hA'.room hw5 hz5 ?_
  rw [ivs_nil]
  refine P2.isNotBool ⟨_, rfl, ?_⟩
  refine ite_nx (by cases ws.isEmpty <;> rfl) ?_
  refine SW.nil ?_
  walk_at "ww"
  refine ⟨Nat.zero_le _, fun y hy => ?_⟩
  have B6 := B5.fresh (o := .list []) hy
  have hw6 := upd_fresh (o := .list []) hy _ _ hw5
  have hy6 := upd_self H5 y (.list [])
  generalize upd H5 y (.list []) = H6 at B6 hw6 hy6 ⊢
  refine P2.eqNil hA'.room hw6 hy6 ⟨_, rfl, ?_⟩
  rw [ivs_nil]
  cases hws : ws with
  | nil =>
    subst hws
    refine ite_t ?_
    walk_at "ww"
    exact seqQ.brk (hT' .brk _ _ (turnQ.brk (h L4 H6 i [] D4 mt1 vs1 sp4 n4 B6.dropE I4 m4 (I4.all Bo (hrd rfl)))))
  | cons w1 ws1 =>
  rw [← hws, show ws.isEmpty = false by rw [hws]; rfl]
  refine ite_f ?_
  refine SW.nil ?_
  walk_at "ww"
  refine XW.for ?_
  walk_at "ww"
  refine ⟨ivs ws, fun H => H wl = some (.list (ivs ws)), hw6, IterP.list hA'.hd, ?_⟩
  refine madeOk X' hA' FS0 Bo B6 hw6 I4 hwsl hml ((n4 "values" (by decide)).trans l2) ((n4 "seen" (by decide)).trans l3) ((n4 "made" (by decide)).trans l6) nh ?_
  intro L7 H7 mt7 vs7 h7 B7 hw7 em7 ev7
  have n7 : ∀ x : Str, x ∉ hourN → L7 x = L x := fun x hx => by
    rw [h7 x (by simp only [hourN, List.mem_cons, List.not_mem_nil, or_false, not_or] at hx; exact hx.2.2.2.2.2.2.1)]
    exact n4 x hx
  have s7 : L7 "sorter" = some (.ref c.a) := (n7 "sorter" (by decide)).trans l5
  have w7 : L7 "waiting" = some (.ref wl) := (h7 "waiting" (by decide)).trans nw
  have r7 : L7 "hour" = some (.int i 0) := (h7 "hour" (by decide)).trans nh
  have fin : ∀ (L8 : Loc) (H8 : AH) (rdy8 D8 : List Int), (∀ x : Str, x ≠ "thing" → L8 x = L7 x) → BS c [wl] kp H8 rdy8 [] D8 mt7 vs7 sp4 → (∀ t, t ∈ D8 ↔ t ∈ ws ∨ t ∈ D4) → T' .next L8 H8 := by
    intro L8 H8 rdy8 D8 h8 B8 hD8
    refine hT' _ _ _ ⟨(B8.ks _ hrk).1, i + 1, n, D8, rdy8, mt7, (vs7, sp4), rfl, by lia, ?_, fun x hx => ?_, B8.dropE, ?_, ?_⟩
    · have h1 := congrArg List.length em7
      simp only [List.length_map, List.length_append] at h1
      have h2 : 0 < ws.length := by rw [hws]; simp
      lia
    · rw [h8 x (by simp only [hourN, List.mem_cons, List.not_mem_nil, or_false, not_or] at hx; exact hx.2.2.2.2.2.2.1)]
      exact n7 x hx
    · exact I4.hour Bo (hrd rfl) hD8 ev7
    · rw [em7]
      exact m4.hour I4 nwd hD8
  walk_at "ww"
  refine Pe2.mod (by decide) ?_
  rw [show Int.fmod (i : Int) 2 = ((i % 2 : Nat) : Int) from fmod_nat i 2]
  walk_at "ww"
  refine P2.eq ⟨_, rfl, ?_⟩
  cases eo : (((i % 2 : Nat) : Int) == 1) with
  | true =>
    refine ite_t ?_
    obtain ⟨p7, q7, hI7⟩ := B7.W.inst
    walk_at "ww"
    refine EW.methodL ?_
    walk_at "ww"
    refine bm_done X' hI7 fun mm hm => ?_
    walk_at "ww"
    refine StarP.list ((Ge.upd hm) _ _ hw7) (by rw [ivs_len]; exact Nat.le_trans hwsl (by decide)) ?_
    refine ⟨KeepOk.meth O' (upd_self ..) (fn120 X'), c_donesG X' hA1 hjl hirr (B7.W.ge (.upd hm)) (upd_self ..) (U' := []) (by rw [List.append_nil]) fun rdy8 H8 W8 F8 => ?_⟩
    have B8 := (B7.fresh (o := .obj (methodObj (.ref 120) (.ref c.a))) hm).sort W8 F8
    walk_at "ww"
    exact fin _ _ rdy8 _ (fun x _ => rfl) B8 (fun t => by simp)
  | false =>
    refine ite_f ?_
    walk_at "ww"
    refine XW.for ?_
    walk_at "ww"
    refine ⟨ivs ws, fun H => H wl = some (.list (ivs ws)), hw7, IterP.list hA'.hd, ?_⟩
    refine doneOkW X' hA' FS0 hjl hirr B7 hw7 s7 ?_
    intro L8 H8 rdy8 D8 h8 B8 hD8
    walk_at "ww"
    exact fin _ _ rdy8 D8 h8 B8 hD8
end

noncomputable def runT {α : Type} (n : Nat) (lt : Nat → Nat → Bool) : KasT α → Option α
  | .ret a => some a
  | .ask i j k => if i < n ∧ j < n then runT n lt (k (lt i j)) else none
theorem kas_of_run {α : Type} {n : Nat} {lt : Nat → Nat → Bool} {cmp : Nat → Nat → (Bool → Shared → Prop) → Shared → Prop} {Q : α → Shared → Prop} {s : Shared} (hc : ∀ i j C, i < n → j < n → C (lt i j) s → cmp i j C s) : ∀ (t : KasT α) (p : α), runT n lt t = some p → Q p s → t.kasWp cmp Q s
  | .ret a, p, h, q => by cases h; exact q
  | .ask i j k, p, h, q => by
    unfold runT at h
    split at h
    · rename_i hij
      exact hc i j _ hij.1 hij.2 (kas_of_run hc (k (lt i j)) p h q)
    · cases h
theorem runT_congr {α : Type} {n : Nat} {lt lt' : Nat → Nat → Bool} (h : ∀ i j, i < n → j < n → lt i j = lt' i j) : ∀ t : KasT α, runT n lt t = runT n lt' t
  | .ret a => rfl
  | .ask i j k => by
    unfold runT
    split
    · rename_i hij
      rw [h i j hij.1 hij.2]
      exact runT_congr h _
    · rfl
noncomputable def perms : List Nat → Nat → List (List Nat)
  | _, 0 => [[]]
  | l, n + 1 => l.flatMap fun x => (perms (l.erase x) n).map (x :: ·)
theorem mem_perms : ∀ {r l : List Nat}, r.Perm l → r ∈ perms l r.length
  | [], l, h => by rw [List.nil_perm.mp h]; exact List.mem_singleton.mpr rfl
  | x :: r, l, h => by
    have hx : x ∈ l := h.mem_iff.mp List.mem_cons_self
    have h2 : r.Perm (l.erase x) := by
      have := h.erase x
      rwa [List.erase_cons_head] at this
    exact List.mem_flatMap.mpr ⟨x, hx, List.mem_map.mpr ⟨r, mem_perms h2, rfl⟩⟩
noncomputable def ltL (r : List Nat) (i j : Nat) : Bool := decide (r.getD i 0 < r.getD j 0)
noncomputable def sortsOk (n : Nat) : Bool := (perms (List.range n) n).all fun r => match runT n (ltL r) (kas_sort n) with
  | some p => (p.toList.map fun i => r.getD i 0) == List.range n && p.toList.all fun i => decide (i < n)
  | none => false
theorem sorts2 : sortsOk 2 = true := by decide +kernel
theorem sorts3 : sortsOk 3 = true := by decide +kernel
theorem sorts4 : sortsOk 4 = true := by decide +kernel
theorem sorts5 : sortsOk 5 = true := by decide +kernel
theorem sorts6 : sortsOk 6 = true := by decide +kernel
theorem sorts_all {n : Nat} (h2 : 2 ≤ n) (h6 : n ≤ 6) : sortsOk n = true := by
  match n, h2, h6 with
  | 2, _, _ => exact sorts2
  | 3, _, _ => exact sorts3
  | 4, _, _ => exact sorts4
  | 5, _, _ => exact sorts5
  | 6, _, _ => exact sorts6
theorem nodup_lenA {α : Type} [DecidableEq α] {l m : List α} (h : l.Nodup) (hs : ∀ x ∈ l, x ∈ m) : l.length ≤ m.length := by
  induction l generalizing m with
  | nil => simp
  | cons x l ih =>
    rw [List.nodup_cons] at h
    have hx := hs x List.mem_cons_self
    have := ih (m := m.erase x) h.2 fun y hy => (List.mem_erase_of_ne (by rintro rfl; exact h.1 hy)).mpr (hs y (List.mem_cons_of_mem _ hy))
    rw [List.length_erase_of_mem hx] at this
    have : 0 < m.length := List.length_pos_of_mem hx
    simp only [List.length_cons]; lia
theorem perm_range {r : List Nat} {n : Nat} (nd : r.Nodup) (hl : r.length = n) (hm : ∀ x ∈ r, x < n) : r.Perm (List.range n) := by
  refine (List.perm_ext_iff_of_nodup nd List.nodup_range).mpr fun a => ⟨fun h => List.mem_range.mpr (hm a h), fun h => ?_⟩
  refine Classical.byContradiction fun hn => ?_
  have := nodup_lenA (l := a :: r) (m := List.range n) (List.nodup_cons.mpr ⟨hn, nd⟩) fun x hx => by
    rcases List.mem_cons.mp hx with rfl | hx
    · exact h
    · exact List.mem_range.mpr (hm x hx)
  rw [List.length_range, List.length_cons] at this
  lia
noncomputable def rk (ks : List Int) (x : Int) : Nat := (ks.filter fun y => decide (y < x)).length
theorem rk_lt {ks : List Int} (nd : ks.Nodup) {x y : Int} (hx : x ∈ ks) (h : x < y) : rk ks x < rk ks y := by
  have := nodup_lenA (l := x :: ks.filter fun z => decide (z < x)) (m := ks.filter fun z => decide (z < y)) (List.nodup_cons.mpr ⟨by simp, (List.filter_sublist).nodup nd⟩) fun z hz => by
    rcases List.mem_cons.mp hz with rfl | hz
    · exact List.mem_filter.mpr ⟨hx, by simpa using h⟩
    · obtain ⟨h1, h2⟩ := List.mem_filter.mp hz
      have h2 := of_decide_eq_true h2
      exact List.mem_filter.mpr ⟨h1, decide_eq_true (by lia)⟩
  rw [List.length_cons] at this
  exact this
theorem rk_iff {ks : List Int} (nd : ks.Nodup) {x y : Int} (hx : x ∈ ks) (hy : y ∈ ks) : x < y ↔ rk ks x < rk ks y := by
  refine ⟨rk_lt nd hx, fun h => ?_⟩
  refine Classical.byContradiction fun hn => ?_
  rcases Int.lt_or_eq_of_le (Int.not_lt.mp hn) with h1 | h1
  · have := rk_lt nd hy h1; lia
  · rw [h1] at h; lia
theorem sort_run {ks : List Int} (nd : ks.Nodup) (h2 : 2 ≤ ks.length) (h6 : ks.length ≤ 6) : ∃ p : Array Nat, runT ks.length (fun i j => decide (ks.getD i 0 < ks.getD j 0)) (kas_sort ks.length) = some p ∧ p.toList.Perm (List.range ks.length) ∧ (p.toList.map fun i => ks.getD i 0).Pairwise (· < ·) := by
  have hg : ∀ i, i < ks.length → ks.getD i 0 ∈ ks := fun i h => by
    rw [List.getD_eq_getElem?_getD, List.getElem?_eq_getElem h]; exact List.getElem_mem h
  have hr : ∀ i, i < ks.length → (ks.map (rk ks)).getD i 0 = rk ks (ks.getD i 0) := fun i h => by
    rw [List.getD_eq_getElem?_getD, List.getElem?_map, List.getD_eq_getElem?_getD, List.getElem?_eq_getElem h]; rfl
  have hperm : (ks.map (rk ks)).Perm (List.range ks.length) := by
    refine perm_range ?_ (List.length_map _) fun x hx => ?_
    · refine List.pairwise_map.mpr (List.Pairwise.imp_of_mem (fun {a b} ha hb hab e => ?_) nd)
      rcases Int.lt_trichotomy a b with h | h | h
      · have := rk_lt nd ha h; lia
      · exact hab h
      · have := rk_lt nd hb h; lia
    · obtain ⟨y, hy, rfl⟩ := List.mem_map.mp hx
      have := nodup_lenA (l := y :: ks.filter fun z => decide (z < y)) (m := ks) (List.nodup_cons.mpr ⟨by simp, (List.filter_sublist).nodup nd⟩) fun z hz => by
        rcases List.mem_cons.mp hz with rfl | hz
        · exact hy
        · exact (List.mem_filter.mp hz).1
      rw [List.length_cons] at this
      exact this
  have hmem := mem_perms hperm
  rw [List.length_map] at hmem
  have hok := List.all_eq_true.mp (sorts_all h2 h6) _ hmem
  have hcongr : runT ks.length (fun i j => decide (ks.getD i 0 < ks.getD j 0)) (kas_sort ks.length) = runT ks.length (ltL (ks.map (rk ks))) (kas_sort ks.length) := by
    refine runT_congr (fun i j hi hj => ?_) _
    unfold ltL
    rw [hr i hi, hr j hj]
    exact decide_eq_decide.mpr (rk_iff nd (hg i hi) (hg j hj))
  rw [hcongr]
  cases e : runT ks.length (ltL (ks.map (rk ks))) (kas_sort ks.length) with
  | none => rw [e] at hok; cases hok
  | some p =>
    rw [e] at hok
    obtain ⟨k1, k2⟩ := Bool.and_eq_true_iff.mp hok
    have k1 : (p.toList.map fun i => (ks.map (rk ks)).getD i 0) = List.range ks.length := by simpa using k1
    have k2 : ∀ i ∈ p.toList, i < ks.length := fun i hi => by simpa using List.all_eq_true.mp k2 i hi
    refine ⟨p, rfl, perm_range ?_ ?_ k2, ?_⟩
    · have : (p.toList.map fun i => (ks.map (rk ks)).getD i 0).Nodup := by rw [k1]; exact List.nodup_range
      exact List.Pairwise.of_map (f := fun i => (ks.map (rk ks)).getD i 0) (fun a b h e => h (by rw [e])) this
    · have := congrArg List.length k1
      simpa using this
    · have h3 : (p.toList.map fun i => (ks.map (rk ks)).getD i 0).Pairwise (· < ·) := by rw [k1]; exact List.pairwise_lt_range
      refine List.pairwise_map.mpr (List.Pairwise.imp_of_mem (fun {a b} ha hb hab => ?_) (List.pairwise_map.mp h3))
      rw [hr a (k2 a ha), hr b (k2 b hb)] at hab
      exact (rk_iff nd (hg a (k2 a ha)) (hg b (k2 b hb))).mpr hab

noncomputable def kk (m : Addr × Int × Int) : Int := m.2.1 * 8 + m.2.2
noncomputable def PairAt (h : Heap) (m : Addr × Int × Int) : Prop := ∃ n t u, h.get? m.1 = some { cls := .type "tuple", data := .seq #[.int m.2.1 t, .int m.2.2 u] n }
section
variable {prog : Program} {w : World} {A : Around} {E : Value → Shared → Prop} {s : Shared}
theorem pair_lt {x y : Addr × Int × Int} {Q : Bool → Shared → Prop} (hx : PairAt s.heap x) (hy : PairAt s.heap y) (bx : 0 ≤ x.2.2 ∧ x.2.2 < 8) (byy : 0 ≤ y.2.2 ∧ y.2.2 < 8) (h : Q (decide (kk x < kk y)) s) : wpAny (model prog w) A (keyLt' (tuples' true) (.ref x.1) (.ref y.1)) Q E s := by
  obtain ⟨n, t, u, hx⟩ := hx
  obtain ⟨n', t', u', hy⟩ := hy
  refine kat_lt hx rfl hy rfl ?_
  refine kat_cons (wpAny_eqBool_int ?_)
  unfold kk at h
  cases e : (x.2.1 == y.2.1) with
  | true =>
    have e := eq_of_beq e
    refine kat_yes (kat_cons (wpAny_eqBool_int ?_))
    cases e2 : (x.2.2 == y.2.2) with
    | true =>
      have e2 := eq_of_beq e2
      refine kat_yes (kat_nil ?_)
      rw [e, e2] at h
      have : decide (y.2.1 * 8 + y.2.2 < y.2.1 * 8 + y.2.2) = false := by simp
      rw [this] at h; exact h
    | false =>
      refine kat_no (kat_one _ _ (wpAny_lt_int ?_))
      rw [e] at h
      have : decide (y.2.1 * 8 + x.2.2 < y.2.1 * 8 + y.2.2) = decide (x.2.2 < y.2.2) := decide_eq_decide.mpr (by lia)
      rw [this] at h; exact h
  | false =>
    have e : ¬ x.2.1 = y.2.1 := fun q => by rw [q] at e; simp at e
    refine kat_no (oneLt_int ?_)
    have : decide (x.2.1 * 8 + x.2.2 < y.2.1 * 8 + y.2.2) = decide (x.2.1 < y.2.1) := decide_eq_decide.mpr (by lia)
    rw [this] at h; exact h
theorem katTups_of : ∀ {mt : List (Addr × Int × Int)} {h : Heap}, (∀ m ∈ mt, PairAt h m) → ∃ fs : List Value, KatTups h (mt.map fun m => .ref m.1) fs ∧ fs.length = mt.length ∧ ∀ v ∈ fs, ∃ i t, v = .int i t
  | [], h, _ => ⟨[], .nil, rfl, by simp⟩
  | m :: mt, h, hp => by
    obtain ⟨fs, h1, h2, h3⟩ := katTups_of (mt := mt) (h := h) fun x hx => hp x (List.mem_cons_of_mem _ hx)
    obtain ⟨n, t, u, hm⟩ := hp m List.mem_cons_self
    refine ⟨.int m.2.1 t :: fs, .cons hm rfl rfl rfl h1, by simp [h2], fun v hv => ?_⟩
    rcases List.mem_cons.mp hv with rfl | hv
    · exact ⟨_, _, rfl⟩
    · exact h3 v hv
theorem sort_pairs {a : Addr} {mt : List (Addr × Int × Int)} {n : Nat} {P : Fin → Shared → Prop} (ho : s.heap.get? a = some (seqObj "list" (mt.map fun m => Value.ref m.1).toArray n))
    (hp : ∀ m ∈ mt, PairAt s.heap m) (hb : ∀ m ∈ mt, 0 ≤ m.2.2 ∧ m.2.2 < 8) (nd : (mt.map kk).Nodup) (h6 : mt.length ≤ 6)
    (h : ∀ (out : Array Value) (mt' : List (Addr × Int × Int)), out.toList = mt'.map (fun m => .ref m.1) → mt'.Perm mt → (mt'.map kk).Pairwise (· < ·) → P (.done (.ret .none)) { s with heap := sortedHeap s.heap a (mt.map fun m => Value.ref m.1) out }) :
    wpAny (model prog w) A (Builtin.«list.sort» ⟨[.ref a], []⟩) P E s := by
  rw [list_sort_plain]
  have ha : a < s.heap.objs.size := Heap.lt_size ho
  have hbig : 1000 ≤ sizeLine := by decide
  have hvl : (mt.map fun m => Value.ref m.1).length = mt.length := List.length_map _
  refine wpAny_bind (listItems_at ho rfl (wpAny_bind (listUpdate_at ho rfl ?_ (by rw [List.size_toArray, hvl]; lia) (by simp))))
  obtain ⟨e1, q1⟩ : ∃ e1, (s.heap.update a (Obj.mapSeq fun _ => #[])).get? a = some (seqObj "list" #[] e1) := ⟨_, get?_update_seq ho (fun _ => (#[] : Array Value))⟩
  refine wpAny_bind (seqEpoch_at q1 rfl (wpAny_bind (wpAny_newTuple ?_ (by rw [List.length_map]; lia))))
  refine wpAny_bind (wpAny_newList (wpAny_holding ?_) (by simp))
  have q6 : (((s.heap.update a (Obj.mapSeq fun _ => #[])).push (seqObj "tuple" (mt.map fun m => Value.ref m.1).toArray 0)).push (seqObj "list" #[] 0)).get? a = some (seqObj "list" #[] e1) := by
    rw [Heap.get?_push_ne _ _ _ (by rw [size_push', Heap.size_update]; exact Nat.ne_of_lt (Nat.lt_succ_of_lt ha)), Heap.get?_push_ne _ _ _ (by rw [Heap.size_update]; exact Nat.ne_of_lt ha)]
    exact q1
  have hp6 : ∀ m ∈ mt, PairAt (((s.heap.update a (Obj.mapSeq fun _ => #[])).push (seqObj "tuple" (mt.map fun m => Value.ref m.1).toArray 0)).push (seqObj "list" #[] 0)) m := by
    intro m hm
    obtain ⟨n1, t, u, e⟩ := hp m hm
    have hne : m.1 ≠ a := by
      intro q; rw [q, ho] at e
      have := congrArg (Option.map Obj.cls) e
      simp [seqObj] at this
    exact ⟨n1, t, u, Heap.get?_push_of_some _ (Heap.get?_push_of_some _ ((Heap.get?_update_ne _ _ _ _ hne).trans e))⟩
  show wpAny (model prog w) A _ P E { s with heap := ((s.heap.update a (Obj.mapSeq fun _ => #[])).push (seqObj "tuple" (mt.map fun m => Value.ref m.1).toArray 0)).push (seqObj "list" #[] 0) }
  dsimp only
  have hne : ∀ n : Nat, (n != n) = false := by simp
  by_cases h2 : 2 ≤ mt.length
  · have hsz : ¬ (mt.map fun m => Value.ref m.1).toArray.size < 2 := by rw [List.size_toArray, hvl]; lia
    rw [if_neg hsz, if_neg hsz]
    obtain ⟨fs, t1, t2, t3⟩ := katTups_of hp6
    refine wpAny_bind (kat_kind (T := .type "int") t1 (by lia) (fun v hv => ?_) rfl ?_)
    · obtain ⟨i, t, rfl⟩ := t3 v hv
      exact .now
    obtain ⟨p, hrun, hpp, hps⟩ := sort_run nd (by rw [List.length_map]; exact h2) (by rw [List.length_map]; exact h6)
    rw [List.length_map] at hrun hpp
    have hget : ∀ i, i < mt.length → (mt.map fun m => Value.ref m.1).getD i .none = .ref (mt.getD i default).1 ∧ (mt.map kk).getD i 0 = kk (mt.getD i default) ∧ mt.getD i default ∈ mt := fun i hi => by
      simp only [List.getD_eq_getElem?_getD, List.getElem?_map, List.getElem?_eq_getElem hi]
      exact ⟨rfl, rfl, List.getElem_mem hi⟩
    have hcmp : ∀ i j (C : Bool → Shared → Prop), i < mt.length → j < mt.length → C (decide ((mt.map kk).getD i 0 < (mt.map kk).getD j 0)) { s with heap := ((s.heap.update a (Obj.mapSeq fun _ => #[])).push (seqObj "tuple" (mt.map fun m => Value.ref m.1).toArray 0)).push (seqObj "list" #[] 0) } →
        kas_ask prog w A (tuples' (Value.type "int" != Value.type "tuple")) (mt.map fun m => Value.ref m.1) i j C { s with heap := ((s.heap.update a (Obj.mapSeq fun _ => #[])).push (seqObj "tuple" (mt.map fun m => Value.ref m.1).toArray 0)).push (seqObj "list" #[] 0) } := by
      intro i j C hi hj hC
      obtain ⟨g1, g2, g3⟩ := hget i hi
      obtain ⟨k1, k2, k3⟩ := hget j hj
      rw [g2, k2] at hC
      unfold kas_ask
      rw [g1, k1]
      exact pair_lt (hp6 _ g3) (hp6 _ k3) (hb _ g3) (hb _ k3) hC
    refine wpAny_bind (wpAny_mono (kat_run (Q := fun st' s' => s' = { s with heap := ((s.heap.update a (Obj.mapSeq fun _ => #[])).push (seqObj "tuple" (mt.map fun m => Value.ref m.1).toArray 0)).push (seqObj "list" #[] 0) } ∧ (arrOf st').map (·.2) = List.toArray (p.toList.map fun i => (mt.map fun m => Value.ref m.1).getD i Value.none) ∧ failedOf st' = none)
      (G := fun q s' => q = p ∧ s' = { s with heap := ((s.heap.update a (Obj.mapSeq fun _ => #[])).push (seqObj "tuple" (mt.map fun m => Value.ref m.1).toArray 0)).push (seqObj "list" #[] 0) }) rfl (by rw [hvl]; exact h2) (by rw [hvl]; lia)
      (fun q st' s' a1 a2 a3 a4 => ⟨a4.2, by rw [kat_snds rfl a2, a4.1], a3⟩) (by rw [hvl]; exact kas_of_run hcmp _ p hrun ⟨rfl, rfl⟩)) ?_ fun _ _ e => e)
    rintro ⟨⟨⟩, st'⟩ s' ⟨rfl, hout, hf⟩
    dsimp only
    rw [hout]
    have hlo : ∀ i ∈ p.toList, i < mt.length := fun i hi => List.mem_range.mp (hpp.mem_iff.mp hi)
    have hol : (p.toList.map fun i => (mt.map fun m => Value.ref m.1).getD i Value.none) = (p.toList.map fun i => mt.getD i default).map fun m => Value.ref m.1 := by
      rw [List.map_map]
      exact List.map_congr_left fun i hi => (hget i (hlo i hi)).1
    have hz : (List.toArray (p.toList.map fun i => (mt.map fun m => Value.ref m.1).getD i Value.none)).size ≤ 200 := by
      rw [List.size_toArray, List.length_map, hpp.length_eq, List.length_range]; lia
    refine wpAny_bind (seqEpoch_at q6 rfl (wpAny_bind (listUpdate_at q6 rfl ?_ (by simp) (by lia))))
    rw [hf]
    simp only [hne, Bool.false_eq_true, if_false]
    refine wpAny_pure (h _ (p.toList.map fun i => mt.getD i default) (by rw [List.toList_toArray, hol]) ?_ ?_)
    · have h1 := hpp.map fun i => mt.getD i default
      have h2 : (List.range mt.length).map (fun i => mt.getD i default) = mt := by
        apply List.ext_getElem?
        intro i
        rw [List.getElem?_map]
        by_cases hi : i < mt.length
        · rw [List.getElem?_range hi, List.getElem?_eq_getElem hi]
          simp [List.getD_eq_getElem?_getD, List.getElem?_eq_getElem hi]
        · rw [List.getElem?_eq_none (by rw [List.length_range]; lia), List.getElem?_eq_none (by lia)]; rfl
      rw [h2] at h1; exact h1
    · rw [List.map_map]
      have : (p.toList.map (kk ∘ fun i => mt.getD i default)) = p.toList.map fun i => (mt.map kk).getD i 0 := List.map_congr_left fun i hi => (hget i (hlo i hi)).2.1.symm
      rw [this]; exact hps
  · have hsz : (mt.map fun m => Value.ref m.1).toArray.size < 2 := by rw [List.size_toArray, hvl]; lia
    rw [if_pos hsz, if_pos hsz]
    refine wpAny_bind (wpAny_pure ?_)
    refine wpAny_bind (wpAny_of_eq (a := ((), SortSt.mk' general' ((List.map (fun m => Value.ref m.1) mt).toArray.zip (List.map (fun m => Value.ref m.1) mt).toArray) #[] 7 none)) rfl ?_)
    dsimp only
    have hz : (arrOf (SortSt.mk' general' ((List.map (fun m => Value.ref m.1) mt).toArray.zip (List.map (fun m => Value.ref m.1) mt).toArray) #[] 7 none)).map (fun x => x.2) = (mt.map fun m => Value.ref m.1).toArray := by
      show (((List.map (fun m => Value.ref m.1) mt).toArray.zip (List.map (fun m => Value.ref m.1) mt).toArray)).map (fun x => x.2) = _
      apply Array.toList_inj.mp
      simp [List.zip_eq_zipWith]
    rw [hz]
    refine wpAny_bind (seqEpoch_at q6 rfl (wpAny_bind (listUpdate_at q6 rfl ?_ (by simp) (by rw [List.size_toArray, hvl]; lia))))
    show wpAny _ _ (if (e1 != e1) = true then _ else _) _ _ _
    simp only [hne, Bool.false_eq_true, if_false]
    refine wpAny_pure (h _ mt rfl (.refl _) ?_)
    match mt, h2 with
    | [], _ => exact .nil
    | [m], _ => exact List.pairwise_singleton _ _
    | _ :: _ :: _, h2 => exact absurd (by simp) h2
end

theorem refs_er : ∀ {vs : List Value} {as : List Addr}, vs.map er = as.map (fun a => Value.ref a) → vs = as.map fun a => Value.ref a
  | [], [], _ => rfl
  | [], _ :: _, h => by cases h
  | _ :: _, [], h => by cases h
  | v :: vs, a :: as, h => by
    obtain ⟨h1, h2⟩ := List.cons.inj h
    rw [List.map_cons, ← refs_er h2, er_ref h1]
section
variable {C : Cx} {A : Around} {E : Value → Shared → Prop} {f : Fm} {L : Loc} {H : AH}
theorem CallP.sortedPairs {a : Addr} {mt : List (Addr × Int × Int)} {Q : Value → AH → Prop} (ha : H a = some (.list (mt.map fun m => .ref m.1))) (ht : ∀ m ∈ mt, H m.1 = some (.tuple [.int m.2.1 0, .int m.2.2 0])) (hb : ∀ m ∈ mt, 0 ≤ m.2.2 ∧ m.2.2 < 8) (nd : (mt.map kk).Nodup) (h6 : mt.length ≤ 6)
    (h : ∀ (r : Addr) (mt' : List (Addr × Int × Int)), H r = none → mt'.Perm mt → (mt'.map kk).Pairwise (· < ·) → Q (.ref r) (upd H r (.list (mt'.map fun m => .ref m.1)))) : CallP C A E (.builtin "sorted") [.ref a] H Q := by
  refine CallP.of1 fun s R => ?_
  obtain ⟨vs, n, e, q⟩ := R.rep a _ ha
  have hvs : vs.toList = mt.map fun m => Value.ref m.1 := by
    have := refs_er (as := mt.map (·.1)) (vs := vs.toList) (by rw [q, List.map_map]; rfl)
    rw [this, List.map_map]; rfl
  have hl : s.heap.IsList a (mt.map fun m => Value.ref m.1).toArray := by rw [← hvs, Array.toArray_toList]; exact ⟨_, e, rfl, n, rfl⟩
  have hp : ∀ m ∈ mt, PairAt s.heap m := fun m hm => by
    obtain ⟨us, n1, e1, q1⟩ := R.rep m.1 _ (ht m hm)
    obtain ⟨v1, v2, e2, e3, e4⟩ := map2 q1
    obtain ⟨t, rfl⟩ := er_int e3
    obtain ⟨u, rfl⟩ := er_int e4
    refine ⟨n1, t, u, ?_⟩
    rw [e1]
    have : us = #[.int m.2.1 t, .int m.2.2 u] := Array.toList_inj.mp e2
    rw [this]
  have hbig : 1000 ≤ sizeLine := by decide
  have hvl : (mt.map fun m => Value.ref m.1).length = mt.length := List.length_map _
  refine Calls.call_function_entry kind_sorted plain_sorted entry_sorted (args_sorted1 _) ?_
  unfold Builtin.«sorted»
  refine wpAny_bind (m := checkCount "sorted" 1 1 _) (wpAny_pure (wpAny_bind (collect_list hl (wpAny_bind (wpAny_newList ?_ (by lia))) (by lia))))
  have hsz : ((s.heap.push (seqObj "list" #[] 0)).update s.heap.objs.size (Obj.mapSeq (· ++ (mt.map fun m => Value.ref m.1).toArray))).objs.size = s.heap.objs.size + 1 := by
    rw [Heap.size_update, size_push']
  have hoL : (((s.heap.push (seqObj "list" #[] 0)).update s.heap.objs.size (Obj.mapSeq (· ++ (mt.map fun m => Value.ref m.1).toArray))).push (seqObj "list" (mt.map fun m => Value.ref m.1).toArray 0)).get? (s.heap.objs.size + 1) = some (seqObj "list" (mt.map fun m => Value.ref m.1).toArray 0) := by
    rw [← hsz]; exact Heap.get?_push_size _ rfl
  have keep : ∀ b o, s.heap.get? b = some o → (((s.heap.push (seqObj "list" #[] 0)).update s.heap.objs.size (Obj.mapSeq (· ++ (mt.map fun m => Value.ref m.1).toArray))).push (seqObj "list" (mt.map fun m => Value.ref m.1).toArray 0)).get? b = some o := fun b o q => by
    have hlt : b < s.heap.objs.size := Heap.lt_size q
    rw [Heap.get?_push_ne _ _ _ (by rw [hsz]; exact Nat.ne_of_lt (Nat.lt_succ_of_lt hlt)), Heap.get?_update_ne _ _ _ _ (Nat.ne_of_lt hlt), Heap.get?_push_ne _ _ _ (Nat.ne_of_lt hlt)]
    exact q
  show wpAny _ _ _ _ _ { s with heap := ((s.heap.push (seqObj "list" #[] 0)).update s.heap.objs.size (Obj.mapSeq (· ++ (mt.map fun m => Value.ref m.1).toArray))).push (seqObj "list" (mt.map fun m => Value.ref m.1).toArray 0) }
  rw [hsz]
  refine wpAny_bind (wpAny_holding (wpAny_call_entry slot_list_sort ⟨_, hoL, rfl⟩ entry_list_sort (sort_pairs hoL (fun m hm => let ⟨n1, t, u, e⟩ := hp m hm; ⟨n1, t, u, keep _ _ e⟩) hb nd h6 fun out mt' a1 a2 a3 => ⟨_, rfl, ?_⟩) (args_list_sort _)))
  refine wpAny_pure ⟨_, rfl, ?_⟩
  obtain ⟨ep, hat⟩ := sortedAll_at s.heap (mt.map fun m => Value.ref m.1) out
  have hd : s.heap.get? (s.heap.objs.size + 1) = none := by
    cases q : s.heap.get? (s.heap.objs.size + 1) with
    | none => rfl
    | some o => exact absurd (Heap.lt_size q) (Nat.not_lt.mpr (Nat.le_succ _))
  obtain ⟨R', k⟩ := R.alloc (tk := s.toks) (o := .list (mt'.map fun m => .ref m.1)) hd (fun b o e => sortedAll_old e) ⟨out, ep, hat, by rw [a1, List.map_map]; rfl⟩ rfl (Nat.le_succ _)
  exact ⟨_, R', k, ⟨rfl, rfl⟩, h _ mt' (R.dead hd).1 a2 a3⟩
end

section
variable {rc : Int → List (Int × Int)} {ld : Int → Int → Bool} {o : Int → Int} {W : List Int} {vs0 : Int → Int} {ss0 : Int → Option (List Int)} {k : Int} {D ws : List Int} {vs : Int → Int} {ss : Int → Option (List Int)}
theorem Md.keys (B : BuildOk rc ld W vs0 ss0) {mt : List (Addr × Int × Int)} (m : Md rc ld o W ss0 D (mt.map (·.2))) (h : ∀ t ∈ D, t ∈ W) : (∀ x ∈ mt, 0 ≤ x.2.2 ∧ x.2.2 < 8) ∧ (mt.map kk).Nodup := by
  obtain ⟨T, e, nd, ht⟩ := m.ex
  have hT : ∀ t ∈ T, 0 ≤ t ∧ t < 6 := fun t h1 => B.r t (h t ((ht t).mp h1).1)
  constructor
  · intro x hx
    have : x.2 ∈ mt.map (·.2) := List.mem_map.mpr ⟨x, hx, rfl⟩
    rw [e] at this
    obtain ⟨t, h1, h2⟩ := List.mem_map.mp this
    have := hT t h1
    rw [← h2]
    dsimp only
    lia
  · have e2 : mt.map kk = T.map fun t => hrB rc ld o W ss0 t * 8 + t := by
      have : mt.map kk = (mt.map (·.2)).map fun q => q.1 * 8 + q.2 := by rw [List.map_map]; rfl
      rw [this, e, List.map_map]; rfl
    rw [e2]
    refine List.pairwise_map.mpr (List.Pairwise.imp_of_mem (fun {a b} ha hb hab q => ?_) nd)
    have h1 := hT a ha
    have h2 := hT b hb
    exact hab (by lia)
end
set_option genInjectivity false in
structure Built (H : AH) (va sa : Addr) (OK : Addr → Prop) (rc : Int → List (Int × Int)) (ld : Int → Int → Bool) (o : Int → Int) (W : List Int) (vs0 : Int → Int) (ss0 : Int → Option (List Int)) (r : Addr) (H' : AH) (mt : List (Addr × Int × Int)) (vs : Int → Int) (sp : Int → Option (Addr × List Int)) : Prop where
  r0 : H r = none
  hr : H' r = some (.list (mt.map fun m => .ref m.1))
  tup : ∀ m ∈ mt, H' m.1 = some (.tuple [.int m.2.1 0, .int m.2.2 0])
  srt : (mt.map kk).Pairwise (· < ·)
  hv : H' va = some (.list (ivs (six.map vs)))
  hs : H' sa = some (.list (six.map fun t => sv (sp t)))
  hp : ∀ t p xs, sp t = some (p, xs) → An4 (H' p = some (.list (ivs xs))) (p ≠ va) (p ≠ sa) (OK p)
  st : ∀ b x, H b = some x → b ≠ va → b ≠ sa → H' b = some x
  ex : ∃ k D, An3 (BI rc ld o W vs0 ss0 k D [] vs fun j => (sp j).map (·.2)) (∃ mt0 : List (Addr × Int × Int), mt0.Perm mt ∧ Md rc ld o W ss0 D (mt0.map (·.2))) (∀ t ∈ W, t ∈ D)
section
variable {C : Cx} {A : Around} {E : Value → Shared → Prop} {f : Fm} {L : Loc} {H Hx H1 : AH}
set_option maxHeartbeats 4000000 in
theorem bldD (X' : Ctx C) {k0 : Nat} (hA' : AIn C A (k0 + 2)) (FS0 : Frame f (fNames bldS)) {wa ra oa va sa a d0 d r : Addr} {ep : Nat} {F : Addr → Prop} {rdy : List Int} {rl : Int → Addr} {rt : Int → List (Addr × Int × Int)} {W : List Int} {w0 : Int} {o : Int → Int} {ld : Int → Int → Bool} {vs0 : Int → Int} {sp0 : Int → Option (Addr × List Int)} {OK : Addr → Prop}
    (hw : H wa = some (.list (ivs W))) (ho : H oa = some (.list (ivs (six.map o)))) (R : RcAt H ra rl rt) (hv : H va = some (.list (ivs (six.map vs0)))) (hs : H sa = some (.list (six.map fun t => sv (sp0 t)))) (hp : ∀ t p xs, sp0 t = some (p, xs) → An4 (H p = some (.list (ivs xs))) (p ≠ va) (p ≠ sa) (OK p)) (nvs : va ≠ sa) (nn : ∀ x ∈ [wa, oa, ra], x ≠ va ∧ x ≠ sa) (nl : ∀ t ∈ six, rl t ≠ va ∧ rl t ≠ sa) (hok : ∀ b, H b = none → OK b)
    (Bo : BuildOk (rcOf rt) ld W vs0 fun j => (sp0 j).map (·.2)) (hWl : W.length ≤ 6) (hirr : ∀ j, j ∈ W ++ ringJ w0 → j ∉ gN (rcOf rt) j)
    (Wg1 : Wg (gN (rcOf rt)) (W ++ ringJ w0) F a d0 d ep r H1 rdy [] []) (kH : ∀ b x, H b = some x → H1 b = some x ∧ ¬ F b)
    (l0 : L "wanted" = some (.ref wa)) (l1 : L "own" = some (.ref oa)) (l2 : L "values" = some (.ref va)) (l3 : L "seen" = some (.ref sa)) (l4 : L "recipes" = some (.ref ra)) (l5 : L "sorter" = some (.ref a)) {Q : Flow → Loc → AH → Prop}
    (h : ∀ (L' : Loc) (H' : AH) (u : Value) (x : Addr) (mt : List (Addr × Int × Int)) (vs : Int → Int) (sp : Int → Option (Addr × List Int)), er u = .ref x → Built H va sa OK (rcOf rt) ld o W vs0 (fun j => (sp0 j).map (·.2)) x H' mt vs sp → Q (.ret u) L' H') : SWp C A f ((fBody bldS).drop 8) L H1 Q := by
  refine ⟨?_⟩
  have FS : Frame f (_ :: _) := FS0
  have O' := X'.O
  have e : (fBody bldS).drop 8 = (_ :: _) := rfl
  rw [e]
  clear e
  walk_at "ww"
  refine ⟨Nat.zero_le _, fun ma hma => ?_⟩
  have hma0 : H ma = none := by
    cases q : H ma with
    | none => rfl
    | some x => rw [(kH _ _ q).1] at hma; cases hma
  have nva : ma ≠ va := by first | exact no_some (hv) hma0 | exact (no_some (hv) hma0).symm | exact no_some hma0 (hv) | exact (no_some hma0 (hv)).symm | exact two_ne (hv) hma0 (by intro q; cases q; done) | exact (two_ne (hv) hma0 (by intro q; cases q; done)).symm | (rintro rfl; rw [hv] at hma0; cases hma0)
  have nsa : ma ≠ sa := by first | exact no_some (hs) hma0 | exact (no_some (hs) hma0).symm | exact no_some hma0 (hs) | exact (no_some hma0 (hs)).symm | exact two_ne (hs) hma0 (by intro q; cases q; done) | exact (two_ne (hs) hma0 (by intro q; cases q; done)).symm | (rintro rfl; rw [hs] at hma0; cases hma0)
  have B0 : BS { va := va, sa := sa, ma := ma, a := a, d0 := d0, d := d, r := r, ep := ep, F := F, g := gN (rcOf rt), js := W ++ ringJ w0, H0 := H, OK := OK } [] [] (upd H1 ma (.list [])) rdy [] [] [] vs0 sp0 := by
    have k2 : ∀ b x, H b = some x → upd H1 ma (.list []) b = some x := fun b x hb => upd_fresh hma _ _ (kH b x hb).1
    refine ⟨fun b x hb _ _ => k2 b x hb, k2 _ _ hv, k2 _ _ hs, fun t p xs ht => ⟨k2 _ _ (hp t p xs ht).1, (kH _ _ (hp t p xs ht).1).2, ?_⟩, Wg1.ge (upd_fresh hma), upd_self .., (fun m hm => by cases hm), ?_, ?_, fun b hb => ?_, ?_, ?_, (fun q hq => by cases hq), fun t p xs ht => (hp t p xs ht).4, hok⟩
    · have h1 := hp t p xs ht
      simp only [Bc.mu, List.mem_cons, List.not_mem_nil, or_false, not_or]
      exact ⟨h1.2, h1.3, fun e => by have h2 := h1.1; rw [e, hma0] at h2; cases h2⟩
    · intro x hx
      simp only [Bc.mu, List.mem_cons, List.not_mem_nil, or_false] at hx
      rcases hx with rfl | rfl | rfl
      · exact (kH _ _ hv).2
      · exact (kH _ _ hs).2
      · exact Wg1.fresh hma
    · simp only [Bc.mu, List.nodup_cons, List.mem_cons, List.not_mem_nil, or_false, not_or, not_false_eq_true, List.nodup_nil, and_true]
      exact ⟨⟨nvs, Ne.symm nva⟩, Ne.symm nsa⟩
    · show H b = none
      cases q : H b with
      | none => rfl
      | some x => exact absurd hb (kH _ _ q).2
    · intro x hx
      simp only [List.mem_cons, List.not_mem_nil, or_false] at hx
      rw [hx]; exact hma0
    · intro x hx
      simp only [Bc.mu, List.mem_cons, List.not_mem_nil, or_false] at hx
      rcases hx with rfl | rfl | rfl
      · exact ⟨_, k2 _ _ hv⟩
      · exact ⟨_, k2 _ _ hs⟩
      · exact ⟨_, upd_self ..⟩
  generalize hc : ({ va := va, sa := sa, ma := ma, a := a, d0 := d0, d := d, r := r, ep := ep, F := F, g := gN (rcOf rt), js := W ++ ringJ w0, H0 := H, OK := OK } : Bc) = c at B0
  have Ag : Arg c wa ra oa rl rt W o := by
    subst hc
    exact ⟨hw, ho, R, ⟨_, hv⟩, ⟨_, hs⟩, nn, nl⟩
  generalize upd H1 ma (.list []) = H2 at B0 ⊢
  have cva : va = c.va := by rw [← hc]
  have csa : sa = c.sa := by rw [← hc]
  have cma : ma = c.ma := by rw [← hc]
  have ca : a = c.a := by rw [← hc]
  have cH : H = c.H0 := by rw [← hc]
  have cOK : OK = c.OK := by rw [← hc]
  walk_at "ww"
  refine XW.for ?_
  walk_at "ww"
  refine ⟨KeepOk.builtin, CallP.lenList (Ag.fw B0) (by rw [ivs_len]; lia) ?_⟩
  rw [ivs_len]
  walk_at "ww"
  refine Pe2.add ?_
  rw [show ((W.length : Int) + 1) = ((W.length + 1 : Nat) : Int) from rfl]
  walk_at "ww"
  refine ⟨KeepOk.type, CallP.range1 fun r2 hr2 => ?_⟩
  have B3 := (B0.fresh (o := .range 0 ((W.length + 1 : Nat) : Int) 1) hr2).addK (upd_self ..) (B0.W.fresh hr2) (by simp)
  generalize upd H2 r2 (.range 0 ((W.length + 1 : Nat) : Int) 1) = H3 at B3 ⊢
  refine ⟨ivs (up 0 (W.length + 1)), fun H => H r2 = some (.range 0 ((W.length + 1 : Nat) : Int) 1), (B3.ks (r2, _) List.mem_cons_self).1, (jl_up (W.length + 1) ▸ range_up (W.length + 1)) ▸ IterP.range hA'.hd (small_up (by lia)), ?_⟩
  refine hoursOk X' hA' FS0 Ag Bo (by rw [← hc]) (w0 := w0) (by rw [← hc]) hWl (by rw [← hc]; exact hirr) B3 rfl ((setL_ne (by decide)).trans l0) ((setL_ne (by decide)).trans l1) ((setL_ne (by decide)).trans (cva ▸ l2)) ((setL_ne (by decide)).trans (csa ▸ l3)) ((setL_ne (by decide)).trans l4) ((setL_ne (by decide)).trans (ca ▸ l5)) (cma ▸ setL_same) List.mem_cons_self ?_
  intro L4 H4 k4 rdy4 D4 mt vs sp h4 B4 I4 m4 hall
  have n4 : L4 "made" = some (.ref c.ma) := (h4 "made" (by decide)).trans (cma ▸ setL_same)
  have hDW : ∀ t ∈ D4, t ∈ W := fun t ht => (I4.dn t ht).1
  obtain ⟨hb, hnd⟩ := m4.keys Bo hDW
  have hml := m4.len hDW
  rw [List.length_map] at hml
  walk_at "ww"
  refine ⟨KeepOk.builtin, CallP.sortedPairs B4.hm (fun m hm => (B4.mtu m hm).1) hb hnd (by lia) fun x mt' hx hperm hsort => ?_⟩
  have B5 := B4.fresh (o := .list (mt'.map fun m => .ref m.1)) hx
  walk_at "ww"
  intro u eu
  refine h _ _ u x mt' vs sp eu ⟨?_, upd_self .., fun m hm => (B5.mtu m (hperm.mem_iff.mp hm)).1, hsort, cva ▸ B5.hv, csa ▸ B5.hs, fun t p xs ht => ?_, fun b y hb h1 h2 => ?_, k4, D4, I4, ⟨mt, hperm.symm, m4⟩, hall⟩
  · rw [cH]; exact B4.h0 hx
  · have h1 := B5.hp t p xs ht
    have h2 := h1.3
    simp only [Bc.mu, List.mem_cons, List.not_mem_nil, or_false, not_or] at h2
    exact ⟨h1.1, cva ▸ h2.1, csa ▸ h2.2.1, cOK ▸ B5.hq t p xs ht⟩
  · exact B5.st b y (cH ▸ hb) (cva ▸ h1) (csa ▸ h2)
end

theorem Frame.cast {f : Fm} {a b : List (Str × NameKind)} (h : Frame f a) (e : a = b) : Frame f b := e ▸ h
section
variable {rc : Int → List (Int × Int)} {ld : Int → Int → Bool} {W : List Int} {vs0 : Int → Int} {ss0 : Int → Option (List Int)} {w0 : Int}
theorem BuildOk.gw (B : BuildOk rc ld W vs0 ss0) : GW' (gN rc) W := by
  refine ⟨B.n, B.r, fun t ht a ha => ?_, rfl, rfl⟩
  rw [gN_of (B.r t ht).2] at ha
  obtain ⟨p, hp, rfl⟩ := List.mem_map.mp ha
  exact ⟨B.d t ht p hp, (B.R.lt t (B.r t ht).1 (B.r t ht).2 p hp).2⟩
theorem BuildOk.irr (B : BuildOk rc ld W vs0 ss0) : ∀ j, j ∈ W ++ ringJ w0 → j ∉ gN rc j := by
  intro j hj hm
  rcases mem_js hj with h | h | h
  · have := (B.gw.d j h j hm).2; lia
  · subst h; simp [gN] at hm
  · subst h; simp [gN] at hm
theorem BuildOk.wl (B : BuildOk rc ld W vs0 ss0) : W.length ≤ 6 := nodup_len B.n (m := six) fun x hx => mem_six.mpr (B.r x hx)
theorem GG_sz {g : Int → List Int} (hg : ∀ t ∈ W, (g t).length ≤ 10) (hl : W.length ≤ 6) : szA (GG g W w0) < 900 := by
  unfold GG
  rw [szA_app, szA_app]
  have h1 := szA_le (gLo g) 10 (ks := W) fun k hk => by
    have := hg k hk
    unfold gLo; rw [List.length_drop]; lia
  have h2 := szA_le (gHi g) 10 (ks := W) fun k hk => by
    have := hg k hk
    unfold gHi; rw [List.length_take]; lia
  have h3 : szA (ringG w0) ≤ 4 := by
    unfold ringG
    split <;> simp [szA]
  lia
end
section
variable {C : Cx} {A : Around} {E : Value → Shared → Prop} {f : Fm} {L : Loc} {H : AH}
theorem bldAll (X' : Ctx C) {k0 : Nat} (hA' : AIn C A (k0 + 9)) (hF : AF C A f) (FS : Frame f (fNames bldS)) {wa ra oa va sa : Addr} {rl : Int → Addr} {rt : Int → List (Addr × Int × Int)} {W : List Int} {w0 : Int} {o : Int → Int} {ld : Int → Int → Bool} {vs0 : Int → Int} {sp0 : Int → Option (Addr × List Int)} {OK : Addr → Prop}
    (hw : H wa = some (.list (ivs W))) (ho : H oa = some (.list (ivs (six.map o)))) (R : RcAt H ra rl rt) (hv : H va = some (.list (ivs (six.map vs0)))) (hs : H sa = some (.list (six.map fun t => sv (sp0 t)))) (hp : ∀ t p xs, sp0 t = some (p, xs) → An4 (H p = some (.list (ivs xs))) (p ≠ va) (p ≠ sa) (OK p)) (nvs : va ≠ sa) (nn : ∀ x ∈ [wa, oa, ra], x ≠ va ∧ x ≠ sa) (nl : ∀ t ∈ six, rl t ≠ va ∧ rl t ≠ sa) (hok : ∀ b, H b = none → OK b)
    (Bo : BuildOk (rcOf rt) ld W vs0 fun j => (sp0 j).map (·.2)) (h0 : W[0]? = some w0)
    (l0 : L "wanted" = some (.ref wa)) (l1 : L "own" = some (.ref oa)) (l2 : L "values" = some (.ref va)) (l3 : L "seen" = some (.ref sa)) (l4 : L "recipes" = some (.ref ra)) {Q : Flow → Loc → AH → Prop}
    (h : ∀ (L' : Loc) (H' : AH) (u : Value) (x : Addr) (mt : List (Addr × Int × Int)) (vs : Int → Int) (sp : Int → Option (Addr × List Int)), er u = .ref x → Built H va sa OK (rcOf rt) ld o W vs0 (fun j => (sp0 j).map (·.2)) x H' mt vs sp → Q (.ret u) L' H') : SWp C A f (fBody bldS) L H Q := by
  have hg : ∀ t ∈ six, (gN (rcOf rt) t).length ≤ 10 := fun t ht => by
    rw [gN_of (mem_six.mp ht).2, List.length_map, rcOf, List.length_map]; exact R.len t ht
  have hWs : ∀ t ∈ W, t ∈ six := fun t ht => mem_six.mpr (Bo.r t ht)
  refine bldA X' (k := k0) hA' FS R l4 fun L1 H1 a d0 d nl1 na m1 m2 m3 Hx gx S1 n1 n2 => ?_
  have n2' : ∀ t ∈ six, Hx (na t) = some (.list (ivs (gN (rcOf rt) t))) := fun t ht => by
    rw [gN_of (mem_six.mp ht).2]; exact n2 t ht
  refine bldB X' (k := k0 + 4) hA' FS (g := gN (rcOf rt)) S1 (gx _ _ hw) n1 n2' hg hWs Bo.wl h0 ((m3 "wanted" (by decide) (by decide)).trans l0) m2 m1 fun L2 H2 p1 p2 S2 => ?_
  have q3 : ∀ x : Str, x ≠ "thing" → x ≠ "ring" → x ≠ "sorter" → x ≠ "needs" → L2 x = L x := fun x h1 h2 h3 h4 => (p2 x h1 h2).trans (m3 x h3 h4)
  refine bldC X' (k := k0 + 7) hA' hF FS Bo.gw S2 (GG_sz (fun t ht => hg t (hWs t ht)) Bo.wl) (gx _ _ hw) h0 ((q3 "wanted" (by decide) (by decide) (by decide) (by decide)).trans l0) p1 ((p2 "sorter" (by decide) (by decide)).trans m1) fun L3 H3 ep r F rdy r1 W3 k3 => ?_
  have q4 : ∀ x : Str, x ≠ "thing" → x ≠ "ring" → x ≠ "sorter" → x ≠ "needs" → L3 x = L x := fun x h1 h2 h3 h4 => (r1 x h2).trans (q3 x h1 h2 h3 h4)
  exact bldD X' (k0 := k0 + 7) hA' FS hw ho R hv hs hp nvs nn nl hok Bo Bo.wl Bo.irr W3 (fun b x hb => k3 b x (gx _ _ hb)) ((q4 "wanted" (by decide) (by decide) (by decide) (by decide)).trans l0) ((q4 "own" (by decide) (by decide) (by decide) (by decide)).trans l1) ((q4 "values" (by decide) (by decide) (by decide) (by decide)).trans l2) ((q4 "seen" (by decide) (by decide) (by decide) (by decide)).trans l3) ((q4 "recipes" (by decide) (by decide) (by decide) (by decide)).trans l4) ((r1 "sorter" (by decide)).trans ((p2 "sorter" (by decide) (by decide)).trans m1)) h
theorem buildOk (X : Ctx C) {k0 : Nat} (hA : AIn C A (k0 + 10)) {wa ra oa va sa : Addr} {rl : Int → Addr} {rt : Int → List (Addr × Int × Int)} {W : List Int} {w0 : Int} {o : Int → Int} {ld : Int → Int → Bool} {vs0 : Int → Int} {sp0 : Int → Option (Addr × List Int)} {OK : Addr → Prop}
    (hw : H wa = some (.list (ivs W))) (ho : H oa = some (.list (ivs (six.map o)))) (R : RcAt H ra rl rt) (hv : H va = some (.list (ivs (six.map vs0)))) (hs : H sa = some (.list (six.map fun t => sv (sp0 t)))) (hp : ∀ t p xs, sp0 t = some (p, xs) → An4 (H p = some (.list (ivs xs))) (p ≠ va) (p ≠ sa) (OK p)) (nvs : va ≠ sa) (nn : ∀ x ∈ [wa, oa, ra], x ≠ va ∧ x ≠ sa) (nl : ∀ t ∈ six, rl t ≠ va ∧ rl t ≠ sa) (hok : ∀ b, H b = none → OK b)
    (Bo : BuildOk (rcOf rt) ld W vs0 fun j => (sp0 j).map (·.2)) (h0 : W[0]? = some w0) {Q : Value → AH → Prop}
    (h : ∀ (H' : AH) (x : Addr) (mt : List (Addr × Int × Int)) (vs : Int → Int) (sp : Int → Option (Addr × List Int)), Built H va sa OK (rcOf rt) ld o W vs0 (fun j => (sp0 j).map (·.2)) x H' mt vs sp → Q (.ref x) H') :
    CallP C A E (.ref 146) [.ref wa, .ref ra, .ref oa, .ref va, .ref sa] H Q := by
  refine CallP.fn fun vs' ev => ?_
  have hvs : vs' = [.ref wa, .ref ra, .ref oa, .ref va, .ref sa] := refs_er (as := [wa, ra, oa, va, sa]) ev
  subst hvs
  have hA : AIn C A (k0 + 9 + 1) := hA
  refine PC.fnP (Q := Q) (body := fBody bldS) [("wanted", .ref wa), ("recipes", .ref ra), ("own", .ref oa), ("values", .ref va), ("seen", .ref sa)] X.O hA (X.look rfl) (by walk_at "kk") (by kernel_rfl) rfl rfl rfl rfl rfl rfl rfl rfl rfl ?_
  intro L f A' O' FS hA' hF
  have X' := X.push L
  have FS' : Frame f (fNames bldS) := FS.cast (by kernel_rfl)
  clear FS
  simp only [locB, List.map_cons, List.map_nil, List.foldl_cons, List.foldl_nil]
  with_reducible refine SWp.go (bldAll X' hA' hF FS' hw ho R hv hs hp nvs nn nl hok Bo h0 ?_ ?_ ?_ ?_ ?_ ?_)
  · walk_at "wloc"
  · walk_at "wloc"
  · walk_at "wloc"
  · walk_at "wloc"
  · walk_at "wloc"
  · intro L' H' u x mt vs sp eu hb
    show Q (er u) H'
    rw [eu]
    exact h H' x mt vs sp hb
end

noncomputable def HeadTE (C : Cx) (A : Around) (E : Value → Shared → Prop) (f : Fm) (it : Expr) (L : Loc) (H : AH) (xs : List (List Value)) (G : (AH → Prop) → Loc → AH → Prop) : Prop :=
  ∀ s, Rel C H s → FrOk C f L H s.heap → ∀ K : Value → Shared → Prop,
    (∀ (D : AH → Prop) I fp s1 S So L1 H1, Rel C H1 s1 → FrOk C f L1 H1 s1.heap → Kept C.fr f.ow H H1 s.heap s1.heap → Still s s1 → D H1 → (∀ a ∈ fp, (f.env.locals ≠ a ∧ (∀ x c, isC f.env x → f.env.cells.lookup x = some c → c ≠ a) ∧ a ∉ f.ow) ∧ H1 a = none ∧ C.h₀.get? a = none ∧ a ∉ C.fr) → (∀ a o, s.heap.get? a = some o → H a = none → a ∉ f.ow → a ∉ fp) →
      ItSpecT C A I fp xs D S So → S 0 s1.heap → G D L1 H1 → K (.ref I) s1) →
    wpAny (model C.prog C.w) A (eval it f.env) (fun x s1 => wpAny (model C.prog C.w) A (pyIter x) K E s1) E s
section
variable {α β : Type} {C : Cx} {A : Around} {E : Value → Shared → Prop} {f : Fm} {L : Loc} {H : AH}
theorem XW.forTE {es : List Expr} {ek : Nat} {ep : Pos} {it : Expr} {body : List Stmt} {p : Pos} {xs : List (List Value)} {Q : Flow → Loc → AH → Prop}
    (h : HeadTE C A E f it L H xs fun D => ForT C A f (.Tuple es ek ep) body D Q xs)
    (hs : ∀ x, foldedSetIterable it f.env x = pure x := by intro _; rfl) : XW C A E f (.For (.Tuple es ek ep) it body [] p) L H Q := by
  intro s0 R0 F0
  refine wpAny_For (wpAny_mono (h s0 R0 F0 _ ?_) (fun _ _ q => q) fun _ _ e => e) hs
  intro D I fp s1 S So L1 H1 R1 F1 k1 st1 d1 hfp nfp sp S0 fw
  have hne : ∀ a ∈ fp, f.env.locals ≠ a ∧ (∀ x c, isC f.env x → f.env.cells.lookup x = some c → c ≠ a) ∧ a ∉ f.ow := fun a ha => (hfp a ha).1
  have hne' : ∀ a ∈ fp, f.env.locals ≠ a ∧ (∀ x c, isC f.env x → f.env.cells.lookup x = some c → c ≠ a) := fun a ha => ⟨(hne a ha).1, (hne a ha).2.1⟩
  refine codeAny_forLoop_any (ForI C f H s0 xs.length fun i L2 H2 h => An4 (D H2) (S i h) (∀ a ∈ fp, H2 a = none) (ForT C A f (.Tuple es ek ep) body D Q (xs.drop i) L2 H2)) ?_ (xs.length + 1)
    ⟨0, L1, H1, by simp, by simp, R1, F1, k1, st1, d1, S0, fun a ha => (hfp a ha).2.1, fw⟩
  rintro n s ⟨i, L2, H2, rfl, hi, R2, F2, k2, st2, d2, S2, HI2, fw2⟩
  have hf2 : ∀ a ∈ fp, H2 a = none ∧ C.h₀.get? a = none ∧ a ∉ C.fr := fun a ha => ⟨HI2 a ha, (hfp a ha).2.2⟩
  by_cases hlt : i < xs.length
  · have hx : xs[i]? = some xs[i] := List.getElem?_eq_getElem hlt
    refine sp.item i xs[i] H2 s _ _ hx S2 R2 d2 fun r h2 tk2 vs hr0 hr2 ev S3 hk2 hrs => ?_
    refine sp.go es ek ep r (i + 1) _ _ _ S3 fun h3 S4 hk3 => ?_
    have hdrop : xs.drop i = xs[i] :: xs.drop (i + 1) := List.drop_eq_getElem_cons hlt
    rw [hdrop] at fw2
    have hrn : r ∉ fp := by
      intro hm
      obtain ⟨o, e⟩ := sp.alive _ _ S2 r hm
      rw [hr0] at e; cases e
    have hr3 : h3.get? r = some { cls := .type "tuple", data := .seq vs } := hk3 r _ hrn hr2
    have hkk : ∀ b o, b ∉ fp → s.heap.get? b = some o → h3.get? b = some o := fun b o hb e => hk3 b o hb (hk2 b o hb e)
    have Ra : Rel C H2 { s with heap := h3, toks := tk2 } := R2.onlys hkk hf2
    have Fa : FrOk C f L2 H2 h3 := F2.onlys hkk hne'
    have Hr : H2 r = none := (R2.dead hr0).1
    have h0r := (R2.dead hr0).2
    have R3 : Rel C (upd H2 r (.tuple xs[i])) { s with heap := h3, toks := tk2 } := by
      refine ⟨Ra.keep, fun b o e => ?_, fun b o e => ?_, fun b c d fs sl e => ?_, fun l hl => ?_⟩
      · unfold upd at e
        split at e
        · rename_i hb; subst hb; cases e; exact ⟨vs, 0, hr3, ev⟩
        · exact Ra.rep b o e
      · unfold upd at e
        split at e
        · rename_i hb; subst hb; exact .inl ⟨h0r, Nat.ne_of_gt (Nat.lt_of_lt_of_le R2.big hrs)⟩
        · exact Ra.low b o e
      · unfold upd at e
        split at e
        · cases e
        · have := Ra.hid b c d fs sl e
          rw [upd_ne _ _ (by first | exact no_some (Hr) this | exact (no_some (Hr) this).symm | exact no_some this (Hr) | exact (no_some this (Hr)).symm | exact two_ne (Hr) this (by intro q; cases q; done) | exact (two_ne (Hr) this (by intro q; cases q; done)).symm | (rintro rfl; rw [Hr] at this; cases this))]; exact this
      · obtain ⟨q1, q2, q3⟩ := Ra.live l hl
        refine ⟨q1, ?_, q3⟩
        rw [upd_ne _ _ ?_]; exact q2
        rintro rfl
        obtain ⟨⟨o, e, _⟩, _⟩ := R2.live _ hl
        rw [hr0] at e; cases e
    have hru : ∀ b, b ≠ r → upd H2 r (.tuple xs[i]) b = H2 b := fun b hb => upd_ne _ _ hb
    have F3 : FrOk C f L2 (upd H2 r (.tuple xs[i])) h3 := by
      refine Fa.keepsAt fun a o e q hm => ⟨⟨o, e, rfl⟩, ?_⟩
      rw [hru a ?_]; exact q
      rintro rfl
      rcases hm with e' | ⟨x, hx, hc⟩
      · exact (F2.ne hr0).1 e'.symm
      · exact (F2.ne hr0).2.1 x _ hx hc rfl
    refine wpAny_mono (fw2 r Hr (.ref r) rfl _ R3 F3) (fun _ s4 ⟨L4, H4, R4, F4, k4, st4, sw⟩ => ?_) fun _ _ e => e.elim
    refine wpAny_mono (sw s4 R4 F4) (fun fl s5 ⟨L5, H5, R5, F5, k5, st5, q5⟩ => ?_) fun _ _ e => e.elim
    have kst : Kept C.fr f.ow H (upd H2 r (.tuple xs[i])) s0.heap h3 := by
      intro a o e q hn
      obtain ⟨⟨o2, e2, d2, f2⟩, q2⟩ := k2 a o e q hn
      have har : a ≠ r := by first | exact no_some (hr0) e2 | exact (no_some (hr0) e2).symm | exact no_some e2 (hr0) | exact (no_some e2 (hr0)).symm | exact two_ne (hr0) e2 (by intro q; cases q; done) | exact (two_ne (hr0) e2 (by intro q; cases q; done)).symm | (rintro rfl; rw [hr0] at e2; cases e2)
      exact ⟨⟨o2, hkk a o2 (nfp a o e q hn) e2, d2, f2⟩, (hru a har).trans q2⟩
    have hkept : Kept C.fr f.ow H H5 s0.heap s5.heap := kst.trans (k4.trans k5)
    have hst : Still s0 s5 := ⟨st5.gens.trans (st4.gens.trans st2.gens), st5.os.trans (st4.os.trans st2.os)⟩
    have hI5 : (∀ a ∈ fp, H5 a = none) ∧ S (i + 1) s5.heap := by
      have hup : ∀ a ∈ fp, upd H2 r (.tuple xs[i]) a = none := fun a ha => (hru a (by rintro rfl; exact hrn ha)).trans (HI2 a ha)
      refine ⟨fun a ha => ?_, sp.frame _ _ _ S4 fun a ha o e => ((k4.trans k5).at e (hup a ha) (hne a ha).2.2 (hfp a ha).2.2.2).1⟩
      obtain ⟨oI, eI⟩ := sp.alive _ _ S4 a ha
      exact ((k4.trans k5).at eI (hup a ha) (hne a ha).2.2 (hfp a ha).2.2.2).2
    cases fl with
    | next => exact ⟨xs.length + 1 - (i + 1), by lia, i + 1, L5, H5, rfl, by lia, R5, F5, hkept, hst, q5.1, hI5.2, hI5.1, q5.2⟩
    | cont => exact ⟨xs.length + 1 - (i + 1), by lia, i + 1, L5, H5, rfl, by lia, R5, F5, hkept, hst, q5.1, hI5.2, hI5.1, q5.2⟩
    | brk => exact ⟨L5, H5, R5, F5, hkept, hst, q5⟩
    | ret v => exact ⟨L5, H5, R5, F5, hkept, hst, q5⟩
  · have : i = xs.length := by lia
    subst this
    refine sp.done H2 s _ _ S2 R2 d2 fun h2 tk2 hk2 => ?_
    rw [List.drop_length] at fw2
    refine wpAny_execs_nil ⟨L2, H2, R2.onlys hk2 hf2, F2.onlys hk2 hne', ?_, ⟨st2.gens, st2.os⟩, fw2⟩
    intro a o e q hn
    obtain ⟨⟨o2, e2, d2, f2⟩, q2⟩ := k2 a o e q hn
    exact ⟨⟨o2, hk2 a o2 (nfp a o e q hn) e2, d2, f2⟩, q2⟩
theorem HeadTE.enum {e : Expr} {np p : Pos} {ao : AO} {xs : List Value} {G : (AH → Prop) → Loc → AH → Prop} (O : C.Ok) (hh : A.handled = none) (hk : f.env.kindOf "enumerate" = some .globalImplicit) (hg : C.mg "enumerate" = none) (hao : ∀ l, Listy C l ao xs)
    (h : EW C A E f e L H fun x L1 H1 => ∃ l, An3 (x = .ref l) (H1 l = some ao) (G (fun H => H l = some ao) L1 H1)) (hs : isStar e = false := by rfl) :
    HeadTE C A E f (.Call (.Name "enumerate" np) [e] [] p) L H (enumItems xs) G := by
  intro s R F K k
  show wpAny _ _ (do PySem.callWith p (← eval (.Name "enumerate" np) f.env) [] (backTo p (starEach [e] f.env)) []) _ _ s
  have hN : EW C A E f (.Name "enumerate" np) L H fun v L1 H1 => v = .type "enumerate" ∧ L1 = L ∧ H1 = H := EW.builtin O hk hg rfl ⟨rfl, rfl, rfl⟩
  refine wpAny_bind (wpAny_mono (hN s R F) (fun fv s1 ⟨L1, H1, R1, F1, k1, st1, hfv, e1, e2⟩ => ?_) fun _ _ e => e)
  subst e1; subst e2
  have hfv := er_type hfv; subst hfv
  refine wpAny_callWith ?_
  rw [starEach_plain _ hs]
  refine Calls.evalArgs_plain ?_
  have hA1 : AW C A E f p [e] L1 H1 fun vs L2 H2 => ∃ l, An3 (vs = [.ref l]) (H2 l = some ao) (G (fun H => H l = some ao) L2 H2) := AW.cons (h.mono fun x L2 H2 ⟨l, q1, q2, q3⟩ => AW.nil ⟨l, by rw [q1], q2, q3⟩) hs
  have hA2 := hA1 s1 R1 F1
  rw [starEach_plain _ hs] at hA2
  refine wpAny_mono hA2 (fun vs s2 ⟨L2, H2, R2, F2, k2, st2, l, hvs, hl, g⟩ => ?_) fun _ _ e => e
  obtain ⟨x, rfl, ex⟩ := map1 hvs
  have ex := er_ref ex; subst ex
  refine ⟨rfl, ⟨.machine, .now⟩, ?_⟩
  obtain ⟨vs, hL, q⟩ := hao l _ (R2.rep l _ hl)
  show wpAny _ _ (call (.type "enumerate") [.ref l]) _ _ _
  refine call_enumerate_list hL fun h' hE hI hsz hkp => wpAny_pyIter_enum hE ?_
  have hd0 := Mine.dead s2.heap
  have hd1 : s2.heap.get? (s2.heap.objs.size + 1) = none := by
    cases e : s2.heap.get? (s2.heap.objs.size + 1) with
    | none => rfl
    | some o => exact absurd (Heap.lt_size e) (Nat.not_lt.mpr (Nat.le_succ _))
  have fpd : ∀ a ∈ [s2.heap.objs.size + 1, s2.heap.objs.size], s2.heap.get? a = none := by
    intro a ha
    simp at ha
    rcases ha with rfl | rfl
    · exact hd1
    · exact hd0
  have nfr : ∀ a ∈ [s2.heap.objs.size + 1, s2.heap.objs.size], a ∉ C.fr := by
    intro a ha hm
    obtain ⟨⟨o, e, _⟩, _⟩ := R2.live _ hm
    rw [fpd a ha] at e; cases e
  have hne : s2.heap.objs.size + 1 ≠ s2.heap.objs.size := Nat.succ_ne_self _
  refine k (fun H => H l = some ao) (s2.heap.objs.size + 1) [s2.heap.objs.size + 1, s2.heap.objs.size] _ (fun i h => (∃ old, IsEnum h (s2.heap.objs.size + 1) s2.heap.objs.size i old) ∧ h.IsListIter s2.heap.objs.size l i)
    (fun i r h => (∃ old, IsEnumOut h (s2.heap.objs.size + 1) s2.heap.objs.size i old r) ∧ h.IsListIter s2.heap.objs.size l i) L2 H2
    (R2.onlys (tk := s2.toks) (fp := [s2.heap.objs.size + 1, s2.heap.objs.size]) (fun b o _ e => hkp b o e) (fun a ha => ⟨(R2.dead (fpd a ha)).1, (R2.dead (fpd a ha)).2, nfr a ha⟩)) (F2.onlys (fp := [s2.heap.objs.size + 1, s2.heap.objs.size]) (fun b o _ e => hkp b o e) (fun a ha => ⟨(F2.ne (fpd a ha)).1, (F2.ne (fpd a ha)).2.1⟩))
    (k1.trans (k2.trans (.mk fun a o e q _ => ⟨hkp a o e, q⟩))) ⟨st2.gens.trans st1.gens, st2.os.trans st1.os⟩ hl (fun a ha => ⟨F2.ne (fpd a ha), (R2.dead (fpd a ha)).1, (R2.dead (fpd a ha)).2, nfr a ha⟩) (fun a o e q hn hm => ?_) ?_ ⟨⟨.none, hE⟩, hI⟩ g
  · obtain ⟨⟨o', e', _⟩, _⟩ := (k1.trans k2) _ o e q hn
    rw [fpd a hm] at e'; cases e'
  · refine ⟨fun i h h' ⟨⟨old, S⟩, ⟨o, T, T'⟩⟩ k => ⟨⟨old, k _ (by simp) _ S⟩, ⟨o, k _ (by simp) _ T, T'⟩⟩, fun i h ⟨⟨old, S⟩, ⟨o, T, T'⟩⟩ a ha => ?_, fun i x H s Q E hx ⟨⟨old, S⟩, T⟩ R d' k => ?_, fun H s Q E ⟨⟨old, S⟩, T⟩ R d' k => ?_, fun es k p r i s Q E ⟨⟨old, S⟩, T⟩ k' => ?_⟩
    · simp at ha
      rcases ha with rfl | rfl
      · exact ⟨_, S⟩
      · exact ⟨_, T⟩
    · obtain ⟨vs, hL, q⟩ := hao l _ (R.rep l _ d')
      obtain ⟨h1, h2⟩ := List.getElem?_eq_some_iff.mp hx
      have hi : i < xs.length := by simpa [enumItems] using h1
      obtain ⟨v, hv, ev⟩ := getElem?_map_er q (i := i) (x := xs[i]) (List.getElem?_eq_getElem hi)
      refine wpAny_pyNext_enum_item S T hL hv hne fun h' S' T' ht hsz hkk => k s.heap.objs.size h' _ _ (Mine.dead _) ht ?_ ⟨⟨_, by push_cast; exact S'⟩, T'⟩ (fun b o hb e => hkk b o (fun e' => hb (by simp [e'])) (fun e' => hb (by simp [e'])) e) (Nat.le_refl _)
      rw [← h2]
      have ei : er (.int i s.toks) = .int i 0 := rfl
      simp [enumItems, ev, ei]
    · obtain ⟨vs, hL, q⟩ := hao l _ (R.rep l _ d')
      have hz := size_er q
      rw [show (enumItems xs).length = xs.length by simp [enumItems]] at S T
      exact wpAny_pyNext_enum_end hh S T hL (by rw [← hz]; simp) fun h' hs => k h' s.toks fun b o hb e => hs b o (fun e' => hb (by simp [e'])) e
    · exact wpAny_letOwnedTupleGo_enum S fun h' S' hs => k' h' ⟨⟨old, S'⟩, by obtain ⟨o, e, q⟩ := T; exact ⟨o, (hs.2 _ hne.symm).trans e, q⟩⟩ fun b o hb e => (hs.2 b (fun e' => hb (by simp [e']))).trans e
theorem P2.sliceB {ve : Expr} {lo' hi' : Option Expr} {p : Pos} {a c : Addr} {xs : List Value} {lo hi : Option Int} {Q : Value → AH → Prop} (ha : H a = some (.blist xs)) (hc : H c = some (.slice lo hi)) (hsz : xs.length ≤ sizeLine)
    (h : ∀ r, H r = none → Q (.ref r) (upd H r (.list (pick xs lo hi)))) : P2 C A E (subscriptTail ve (.Slice lo' hi' none p)) (.ref a) (.ref c) H Q := by
  intro a' c' ea ec s R
  have e := er_ref ea; subst e
  have e := er_ref ec; subst e
  obtain ⟨vs, hL, q⟩ := R.rep a _ ha
  obtain ⟨vl, vu, hs, pl, pu⟩ := R.rep c _ hc
  have hl : vs.size = xs.length := by have := congrArg List.length q; simpa using this
  have hr : Rep C (s.heap.push { cls := .type "list", data := .seq (slicePick vs lo hi none) }) s.heap.objs.size (.list (pick xs lo hi)) := ⟨_, 0, Heap.get?_push_size _ rfl, pick_er q lo hi⟩
  obtain ⟨R', k⟩ := R.alloc (tk := s.toks) (Mine.dead _) (fun b x e => Heap.get?_push_of_some _ e) hr rfl
  obtain ⟨o, e, hc, hd⟩ := id hL
  exact tail_any (ops := [.ref c, .ref a]) ⟨_, e, hc⟩ list_getitem_lookup (wpAny_getItem_list_slice hL hs pl pu .none (by simp) ⟨_, R', k, ⟨rfl, rfl⟩, h _ (R.dead (Mine.dead _)).1⟩ (by lia)) rfl
end

noncomputable def lawS : Stmt := nth PySem.Challenge.pw_dm0133_07.main.body 9
theorem fdiv2 (n : Nat) : Int.fdiv (n : Int) 2 = ((n / 2 : Nat) : Int) := by rw [Int.fdiv_eq_ediv_of_nonneg _ (by decide)]; rfl
theorem enum_cons (j : Int) (js : List Int) (i : Nat) : ((ivs (j :: js)).zipIdx i).map (fun p => [Value.int p.2 0, p.1]) = [Value.int i 0, Value.int j 0] :: ((ivs js).zipIdx (i + 1)).map (fun p => [Value.int p.2 0, p.1]) := by
  simp [ivs]
section
variable {C : Cx} {A : Around} {E : Value → Shared → Prop} {f : Fm} {L : Loc} {H : AH}
set_option maxHeartbeats 4000000 in
theorem lawA (X' : Ctx C) {k : Nat} (hA' : AIn C A k) (FS0 : Frame f (fNames lawS)) {sc : Addr} {ns : List Int} (hsc : H sc = some (.blist (ivs ns))) (hL : L "script" = some (.ref sc)) (hns : ns.length ≤ 63) {Q : Flow → Loc → AH → Prop}
    (h : ∀ (L' : Loc) (H' : AH) (nb rc : Addr) (nums : List Int) (half : Nat), L' "numbers" = some (.ref nb) → L' "recipes" = some (.ref rc) → L' "half" = some (.int half 0) → L' "script" = some (.ref sc) → H' nb = some (.list (ivs nums)) → nums.length = 6 → H' rc = some (.list []) → H' sc = some (.blist (ivs ns)) → rc ≠ nb → SWp C A f ((fBody lawS).drop 4) L' H' Q) : SWp C A f (fBody lawS) L H Q := by
  refine ⟨?_⟩
  have FS : Frame f (_ :: _) := FS0
  have O' := X'.O
  have e : fBody lawS = (_ :: _) := rfl
  rw [e]
  clear e
  walk_at "ww"
  refine ⟨KeepOk.builtin, CallP.lenBlist hsc (by rw [ivs_len]; lia) ?_⟩
  rw [ivs_len]
  walk_at "ww"
  refine Pe2.div (by decide) (PyProof.noPylong_small (by decide)) ?_
  rw [fdiv2]
  walk_at "ww"
  refine ⟨show 6 ≤ sizeLine by decide, fun nb hnb => ?_⟩
  have hnb1 : upd H nb (.list (ivs [0, 1, 1, 36, 192, 272])) nb = some (.list (ivs [0, 1, 1, 36, 192, 272])) := upd_self ..
  have hsc1 : upd H nb (.list (ivs [0, 1, 1, 36, 192, 272])) sc = some (.blist (ivs ns)) := upd_fresh hnb _ _ hsc
  have hsn : sc ≠ nb := ne_of_none hsc hnb
  change GW _ _ _ _ _ _ _ (upd H nb (.list (ivs [0, 1, 1, 36, 192, 272]))) _
  generalize upd H nb (.list (ivs [0, 1, 1, 36, 192, 272])) = H1 at hnb1 hsc1 ⊢
  walk_at "ww"
  refine XW.forTE (HeadTE.enum (xs := ivs (ns.take (ns.length / 2))) O' hA'.hd ((FS.kinds _).trans rfl) (b_enumerate X') (fun l => Listy.list) ?_)
  walk_at "ww"
  refine ⟨_, rfl, ?_⟩
  intro c hc
  have hnb2 := upd_fresh (o := .slice none (some ((ns.length / 2 : Nat) : Int))) hc _ _ hnb1
  have hsc2 := upd_fresh (o := .slice none (some ((ns.length / 2 : Nat) : Int))) hc _ _ hsc1
  refine P2.sliceB hsc2 (upd_self ..) (by rw [ivs_len]; exact Nat.le_trans hns (by decide)) fun sl hsl => ?_
  rw [pick_hi]
  have hnb3 := upd_fresh (o := .list (ivs (ns.take (ns.length / 2)))) hsl _ _ hnb2
  have hsc3 := upd_fresh (o := .list (ivs (ns.take (ns.length / 2)))) hsl _ _ hsc2
  have hsl3 := upd_self (upd H1 c (.slice none (some ((ns.length / 2 : Nat) : Int)))) sl (.list (ivs (ns.take (ns.length / 2))))
  have hsln : sl ≠ nb := (ne_of_none hnb2 hsl).symm
  refine ⟨sl, rfl, hsl3, ?_⟩
  generalize upd (upd H1 c (.slice none (some ((ns.length / 2 : Nat) : Int)))) sl (.list (ivs (ns.take (ns.length / 2)))) = H2 at hnb3 hsc3 hsl3 ⊢
  refine ForT.invT (fun xs L1 H' => Ex3 fun (js : List Int) (i : Nat) (nums : List Int) => An8 (xs = ((ivs js).zipIdx i).map (fun p => [Value.int p.2 0, p.1])) (nums.length = 6) (H' nb = some (.list (ivs nums))) (H' sc = some (.blist (ivs ns))) (H' sl = some (.list (ivs (ns.take (ns.length / 2))))) (L1 "numbers" = some (.ref nb)) (L1 "half" = some (.int ((ns.length / 2 : Nat) : Int) 0)) (L1 "script" = some (.ref sc))) ?_ ?_ ⟨ns.take (ns.length / 2), 0, _, rfl, rfl, hnb3, hsc3, hsl3, by walk_at "wloc", by walk_at "wloc", by walk_at "wloc"⟩
  rotate_left
  · rintro x xs L1 H3 T hT ⟨js, i, nums, e1, hnl, hn4, hs4, hl4, l1, l2, l3⟩ r hr
    cases js with
    | nil => cases e1
    | cons j js =>
      rw [enum_cons] at e1
      obtain ⟨rfl, rfl⟩ := List.cons.inj e1
      refine GW.tuple2 hA'.hd (upd_self ..) ?_
      walk_at "ww"
      refine XW.augSub ?_
      walk_at "ww"
      refine Pe2.mod (by decide) ?_
      rw [show Int.fmod (i : Int) 5 = ((i % 5 : Nat) : Int) from fmod_nat i 5]
      walk_at "ww"
      refine Pe2.add ?_
      have hlt : 1 + i % 5 < nums.length := by rw [hnl]; have := Nat.mod_lt i (show 5 > 0 by decide); lia
      have hn5 := upd_fresh (o := .tuple [.int i 0, .int j 0]) hr _ _ hn4
      have hs5 := upd_fresh (o := .tuple [.int i 0, .int j 0]) hr _ _ hs4
      have hl5 := upd_fresh (o := .tuple [.int i 0, .int j 0]) hr _ _ hl4
      have hidx : (1 + ((i % 5 : Nat) : Int)).toNat = 1 + i % 5 := by lia
      refine P2.getList hn5 (by lia) (ivs_get (by rw [hidx]; exact List.getElem?_eq_getElem hlt)) (by lia) fun v ev => ?_
      rw [ev]
      walk_at "ww"
      refine P2.iadd fun t => ?_
      intro o' i' eo ei
      cases er_ref eo
      obtain ⟨ti, rfl⟩ := er_int ei
      refine setList hn5 (by lia) (by rw [ivs_len]; lia) (by lia) ?_
      rw [hidx, show er (Value.int (nums[1 + i % 5] + j) t) = .int (nums[1 + i % 5] + j) 0 from rfl, ivs_set]
      walk_at "ww"
      refine hT _ _ _ ⟨(upd_ne _ _ hsln).trans hl5, js, i + 1, nums.set (1 + i % 5) (nums[1 + i % 5] + j), rfl, by simp [hnl], upd_self .., (upd_ne _ _ hsn).trans hs5, (upd_ne _ _ hsln).trans hl5, by walk_at "wloc", by walk_at "wloc", by walk_at "wloc"⟩
  rintro L1 H3 ⟨js, i, nums, e1, hnl, hn4, hs4, hl4, l1, l2, l3⟩
  walk_at "ww"
  refine ⟨Nat.zero_le _, fun rc hrc => ?_⟩
  refine GW.cell ((FS.kinds _).trans rfl) (FS.cell _ rfl) ?_
  with_reducible refine seqQ.next ?_
  exact (h _ _ nb rc nums _ (by walk_at "wloc") (by walk_at "wloc") (by walk_at "wloc") (by walk_at "wloc") (upd_fresh hrc _ _ hn4) hnl (upd_self ..) (upd_fresh hrc _ _ hs4) (ne_of_none hn4 hrc).symm).go
end

section
variable {C : Cx} {A : Around} {E : Value → Shared → Prop} {f : Fm} {L : Loc} {H : AH}
theorem EW.lcompP {elt it it2 : Expr} {x y : Str} {xp yp p : Pos} {scope : Scope} {outer : List (Str × NameKind)} {Q : Value → Loc → AH → Prop} (F : FrameC f outer) (hsc : scopeOk scope outer = true) (hx : scope.names.lookup x = some .local) (hy : scope.names.lookup y = some .local) (hxy : x ≠ y)
    (hs : ∀ env v, foldedSetIterable it env v = pure v) (hs2 : ∀ env v, foldedSetIterable it2 env v = pure v)
    (h : EW C A E f it L H fun xv L1 H1 => ∃ (ns : List Int) (ms : Int → List Int) (out : Int → Int × Int) (D : AH → Prop), An7 (D H1) (IterP C A xv (ivs ns) D) (∀ H', Ge H1 H' → D H') ((ns.map fun n => (ms n).length).sum ≤ 1000)
      (∀ f' n L2 H2, n ∈ ns → FrameC f' (relN scope.names outer) → Ge H1 H2 → (∀ y, scope.names.lookup y = some .free → L2 y = L1 y) → L2 x = some (.int n 0) → EW C A nx f' it2 L2 H2 fun yv L3 H3 => ∃ D2, An5 (L3 = L2) (Ge H2 H3) (D2 H3) (∀ b o H', H2 b = some o → Ga b H3 H' → D2 H') (IterP C A yv (ivs (ms n)) D2))
      (∀ f' n m L2 H2, n ∈ ns → m ∈ ms n → FrameC f' (relN scope.names outer) → Ge H1 H2 → (∀ y, scope.names.lookup y = some .free → L2 y = L1 y) → L2 x = some (.int n 0) →
        EW C A nx f' elt L2 H2 (fun v L4 H4 => An3 (L4 = L2) (Ge H2 H4) (∃ r, An3 (v = .ref r) (H2 r = none) (H4 r = some (.tuple [.int (out n).1 0, .int (out n).2 0])))))
      (∀ r H' (ps : List (Addr × Int × Int)), Ge H1 H' → H1 r = none → H' r = some (.list (ps.map fun p => .ref p.1)) → (∀ p ∈ ps, H' p.1 = some (.tuple [.int p.2.1 0, .int p.2.2 0])) → ps.map (·.2) = (ns.flatMap fun n => (ms n).map fun _ => out n) → Q (.ref r) L1 H')) :
    EW C A E f (.ListComp elt [⟨.Name x xp, it, [], 0⟩, ⟨.Name y yp, it2, [], 0⟩] scope p) L H Q := by
  refine EW.listComp (scopeOk.ok F hsc) (fun K' g' hg => ?_) (hs _) (TW.mono h fun xv L1 H1 q => ?_)
  · rcases List.mem_cons.mp hg with rfl | hg
    · exact ⟨rfl, hs _⟩
    · cases List.mem_singleton.mp hg
      exact ⟨rfl, hs2 _⟩
  obtain ⟨ns, ms, out, D, d1, ip, hD, hsz, hin, hbody, hfin⟩ := q
  refine ⟨ivs ns, D, d1, ip, fun a ha => ⟨hD _ (.upd ha), fun K' => ?_⟩⟩
  have FC := F.comp hsc K'
  have kindL : ∀ z, scope.names.lookup z = some .local → (compFm f.env scope K').env.kindOf z = some .local := fun z hz => by
    rw [FC.kinds]; unfold relN
    rw [lookup_map_fst (fun p => (p.1, if (p.2 == .free && outer.lookup p.1 == some .cell) then .cell else p.2)) (fun _ => rfl), hz]; rfl
  have setf : ∀ {L2 : Loc} {z : Str} {v : Value}, scope.names.lookup z = some .local → (∀ y, scope.names.lookup y = some .free → L2 y = L1 y) → ∀ y, scope.names.lookup y = some .free → setL L2 z v y = L1 y := fun hz hl y hy => by
    rw [setL_ne (by first | exact no_some (hz) hy | exact (no_some (hz) hy).symm | exact no_some hy (hz) | exact (no_some hy (hz)).symm | exact two_ne (hz) hy (by intro q; cases q; done) | exact (two_ne (hz) hy (by intro q; cases q; done)).symm | (rintro rfl; rw [hz] at hy; cases hy))]; exact hl y hy
  have inner : ∀ n ∈ ns, ∀ (D2 : AH → Prop) (H0 : AH), (∀ H', Ga a H0 H' → D2 H') → ∀ (us : List Int) (acc : List (Addr × Int × Int)) (L2 : Loc) (H2 : AH) (K : Loc → AH → Prop), (∀ m ∈ us, m ∈ ms n) → acc.length + us.length ≤ 1000 → Ge H1 H2 → Ga a H0 H2 → H2 a = some (.list (acc.map fun p => .ref p.1)) → (∀ p ∈ acc, H2 p.1 = some (.tuple [.int p.2.1 0, .int p.2.2 0])) → (∀ y, scope.names.lookup y = some .free → L2 y = L1 y) → L2 x = some (.int n 0) →
      (∀ (L3 : Loc) (H3 : AH) (acc' : List (Addr × Int × Int)), Ge H1 H3 → H3 a = some (.list (acc'.map fun p => .ref p.1)) → (∀ p ∈ acc', H3 p.1 = some (.tuple [.int p.2.1 0, .int p.2.2 0])) → (∀ y, scope.names.lookup y = some .free → L3 y = L1 y) → acc'.map (·.2) = acc.map (·.2) ++ us.map (fun _ => out n) → K L3 H3) →
      loopC (turnC C A (compFm f.env scope K') ⟨.Name y yp, it2, [], 0⟩ (CompG C A (compFm f.env scope K') (emList C A (compFm f.env scope K') elt a) [])) D2 (ivs us) L2 H2 K := by
    intro n hn D2 H0 hD2 us
    induction us with
    | nil => intro acc L2 H2 K _ _ g ga ha2 ht hl hlx k; exact k L2 H2 acc g ha2 ht hl (by simp)
    | cons m us ih =>
      intro acc L2 H2 K hm hlen g ga ha2 ht hl hlx k
      simp only [List.length_cons] at hlen
      refine GW.local (kindL y hy) FC.loc ?_
      refine ifsNil ?_
      refine TW.mono (hbody _ n m (setL L2 y (.int m 0)) H2 hn (hm m List.mem_cons_self) FC g (setf hy hl) ((setL_ne hxy).trans hlx)) fun v L4 H4 q4 => ?_
      obtain ⟨rfl, g4, r, hv, hr0, hr⟩ := q4
      have hra : r ≠ a := by first | exact no_some (hr0) ha2 | exact (no_some (hr0) ha2).symm | exact no_some ha2 (hr0) | exact (no_some ha2 (hr0)).symm | exact two_ne (hr0) ha2 (by intro q; cases q; done) | exact (two_ne (hr0) ha2 (by intro q; cases q; done)).symm | (rintro rfl; rw [hr0] at ha2; cases ha2)
      have e1 : (acc.map fun p => Value.ref p.1) ++ [er v] = (acc ++ [(r, out n)]).map fun p => Value.ref p.1 := by rw [hv]; simp
      have g5 : Ge H1 (upd H4 a (.list ((acc ++ [(r, out n)]).map fun p => .ref p.1))) := fun b o hb => by
        have hba : b ≠ a := by first | exact no_some (ha) hb | exact (no_some (ha) hb).symm | exact no_some hb (ha) | exact (no_some hb (ha)).symm | exact two_ne (ha) hb (by intro q; cases q; done) | exact (two_ne (ha) hb (by intro q; cases q; done)).symm | (rintro rfl; rw [ha] at hb; cases hb)
        rw [upd_ne _ _ hba]; exact g4 _ _ (g _ _ hb)
      have ga5 : Ga a H0 (upd H4 a (.list ((acc ++ [(r, out n)]).map fun p => .ref p.1))) := fun b o hne hb => (upd_ne _ _ hne).trans (g4 _ _ (ga b o hne hb))
      refine ⟨acc.map fun p => .ref p.1, g4 _ _ ha2, Nat.le_trans (by rw [List.length_map]; lia) (by decide : 1000 ≤ sizeLine), ?_⟩
      rw [e1]
      refine ⟨hD2 _ ga5, ih _ _ _ K (fun m hm' => hm m (List.mem_cons_of_mem _ hm')) (by simp; lia) g5 ga5 (upd_self ..) (fun p hp => ?_) (setf hy hl) ((setL_ne hxy).trans hlx) fun L5 H5 acc5 g5' ha5 ht5 hl5 e5 => k L5 H5 acc5 g5' ha5 ht5 hl5 (by rw [e5]; simp)⟩
      rcases List.mem_append.mp hp with hp | hp
      · have h1 := ht p hp
        exact (upd_ne _ _ (by first | exact no_some (h1) (ha2) | exact no_some (ha2) (h1) | exact (no_some (h1) (ha2)).symm | exact (no_some (ha2) (h1)).symm | exact two_ne (h1) (ha2) (by intro q; cases q; done) | exact (two_ne (h1) (ha2) (by intro q; cases q; done)).symm | (intro e; rw [e, ha2] at h1; cases h1))).trans (g4 _ _ h1)
      · cases List.mem_singleton.mp hp
        exact (upd_ne _ _ hra).trans hr
  have key : ∀ (us : List Int) (acc : List (Addr × Int × Int)) (L2 : Loc) (H2 : AH), (∀ n ∈ us, n ∈ ns) → acc.length + (us.map fun n => (ms n).length).sum ≤ 1000 → Ge H1 H2 → H2 a = some (.list (acc.map fun p => .ref p.1)) → (∀ p ∈ acc, H2 p.1 = some (.tuple [.int p.2.1 0, .int p.2.2 0])) → (∀ y, scope.names.lookup y = some .free → L2 y = L1 y) → acc.map (·.2) ++ (us.flatMap fun n => (ms n).map fun _ => out n) = (ns.flatMap fun n => (ms n).map fun _ => out n) →
      loopC (turnC C A (compFm f.env scope K') ⟨.Name x xp, it, [], 0⟩ (CompG C A (compFm f.env scope K') (emList C A (compFm f.env scope K') elt a) [⟨.Name y yp, it2, [], 0⟩])) D (ivs us) L2 H2 fun _ H2 => Q (.ref a) L1 H2 := by
    intro us
    induction us with
    | nil =>
      intro acc L2 H2 _ _ g ha2 ht hl e
      exact hfin a H2 acc g ha ha2 ht (by simpa using e)
    | cons n us ih =>
      intro acc L2 H2 hn hlen g ha2 ht hl e
      rw [List.map_cons, List.sum_cons] at hlen
      refine GW.local (kindL x hx) FC.loc ?_
      refine ifsNil ?_
      refine TW.mono (hin _ n (setL L2 x (.int n 0)) H2 (hn n List.mem_cons_self) FC g (setf hx hl) setL_same) fun yv L3 H3 q => ?_
      obtain ⟨D2, rfl, g3, d2, hD2, ip2⟩ := q
      refine ⟨ivs (ms n), D2, d2, ip2, inner n (hn n List.mem_cons_self) D2 H3 (fun H' ga => hD2 a _ H' ha2 ga) (ms n) acc _ H3 _ (fun _ h => h) (by lia) (g.trans g3) (fun b o _ hb => hb) (g3 _ _ ha2) (fun p hp => g3 _ _ (ht p hp)) (setf hx hl) setL_same fun L4 H4 acc4 g4 ha4 ht4 hl4 e4 => ⟨hD _ g4, ih acc4 L4 H4 (fun m hm => hn m (List.mem_cons_of_mem _ hm)) ?_ g4 ha4 ht4 hl4 ?_⟩⟩
      · have h1 := congrArg List.length e4
        simp only [List.length_map, List.length_append] at h1
        lia
      · rw [← e, e4]; simp
  refine key ns [] _ _ (fun _ h => h) (by simpa using hsz) (.upd ha) (upd_self ..) (by simp) (fun y hy => ?_) (by simp)
  unfold compL; rw [hy]
end

noncomputable def dg (x a : Int) : Int := Int.fmod (Int.fdiv x (4 ^ a.toNat)) 4
theorem dg_rng (x a : Int) : 0 ≤ dg x a ∧ dg x a < 4 := by
  unfold dg
  rw [Int.fmod_eq_emod_of_nonneg _ (by decide)]
  exact ⟨Int.emod_nonneg _ (by decide), Int.emod_lt_of_pos _ (by decide)⟩
theorem dg_four (x a : Int) : dg x a = 0 ∨ dg x a = 1 ∨ dg x a = 2 ∨ dg x a = 3 := by
  have := dg_rng x a
  lia
noncomputable def cntD (d : Int) : Nat := if d = 0 then 0 else if d = 3 then 2 else 1
noncomputable def sgD (d : Int) : Int := if d = 0 then 0 else if d = 2 then -1 else 1
theorem cntD_le (d : Int) : cntD d ≤ 2 := by unfold cntD; split <;> (try split) <;> lia
theorem flat_two {β : Type} {c : Int → Nat} {F : Int → Int → β} (hc : ∀ a, c a ≤ 2) : ∀ l : List Int, (l.flatMap fun a => (jl (c a)).map (F a)).length ≤ l.length * 2
  | [] => by simp
  | a :: l => by
    rw [List.flatMap_cons, List.length_append, List.length_map, len_jl, List.length_cons]
    have := flat_two (F := F) hc l
    have := hc a
    lia
theorem pow4 {a : Int} (h0 : 0 ≤ a) (h6 : a < 6) : (4 : Int) ^ a.toNat ≠ 0 ∧ ((4 : Int) ^ a.toNat).natAbs < 1073741824 := by
  have : a ∈ six := mem_six.mpr ⟨h0, h6⟩
  unfold six at this
  simp only [List.mem_cons, List.not_mem_nil, or_false] at this
  rcases this with rfl | rfl | rfl | rfl | rfl | rfl <;> decide
theorem jl_get {α : Type} (f : Int → α) {n : Nat} {a : Int} (h : a ∈ jl n) : ((jl n).map f)[a.toNat]? = some (f a) := by
  obtain ⟨h0, h1⟩ := mem_jl.mp h
  have hl : a.toNat < n := by lia
  unfold jl
  rw [List.map_map, List.getElem?_map, List.getElem?_range hl]
  show some (f (Int.ofNat a.toNat)) = _
  rw [show Int.ofNat a.toNat = a from Int.toNat_of_nonneg h0]
theorem jl_succ (n : Nat) : jl (n + 1) = jl n ++ [(n : Int)] := by unfold jl; rw [List.range_succ, List.map_append]; rfl
section
variable {C : Cx} {A : Around} {E : Value → Shared → Prop} {f : Fm} {L : Loc} {H : AH}
theorem Pe2.pow {a n : Int} {Q : Value → AH → Prop} (hn : 0 ≤ n) (hsz : (Builtin.Int.intBits a : Int) * n ≤ 2 ^ 27) (h : Q (.int (a ^ n.toNat) 0) H) : Pe2 C A E (binaryOp .Pow) (.int a 0) (.int n 0) H Q := P2.pow hn hsz fun _ => h
set_option genInjectivity false in
structure RcSo (H : AH) (rc : Addr) (rl : Int → Addr) (rt : Int → List (Addr × Int × Int)) (n : Nat) : Prop where
  top : H rc = some (.list ((jl n).map fun t => .ref (rl t)))
  each : ∀ t ∈ jl n, An3 (H (rl t) = some (.list ((rt t).map fun p => .ref p.1))) (rl t ≠ rc) ((rt t).length ≤ 10)
  tup : ∀ t ∈ jl n, ∀ p ∈ rt t, An4 (H p.1 = some (.tuple [.int p.2.1 0, .int p.2.2 0])) (0 ≤ p.2.1) (p.2.1 < t) (p.2.2 = 1 ∨ p.2.2 = -1)
theorem RcSo.ge {H H' : AH} {rc : Addr} {rl : Int → Addr} {rt : Int → List (Addr × Int × Int)} {n : Nat} (R : RcSo H rc rl rt n) (g : Ge H H') : RcSo H' rc rl rt n :=
  ⟨g _ _ R.top, fun t h => ⟨g _ _ (R.each t h).1, (R.each t h).2, (R.each t h).3⟩, fun t h p hp => ⟨g _ _ (R.tup t h p hp).1, (R.tup t h p hp).2, (R.tup t h p hp).3, (R.tup t h p hp).4⟩⟩
set_option maxHeartbeats 4000000 in
theorem lawB (X' : Ctx C) {k : Nat} (hA' : AIn C A k) (FS0 : Frame f (fNames lawS)) {nb rc : Addr} {nums : List Int} (hnb : H nb = some (.list (ivs nums))) (hnl : nums.length = 6) (hrc : H rc = some (.list [])) (hrn : rc ≠ nb) (l1 : L "numbers" = some (.ref nb)) (l2 : L "recipes" = some (.ref rc)) {Q : Flow → Loc → AH → Prop}
    (h : ∀ (L' : Loc) (H' : AH) (rl : Int → Addr) (rt : Int → List (Addr × Int × Int)), (∀ x : Str, x ≠ "thing" → x ≠ "told" → L' x = L x) → RcSo H' rc rl rt 6 → (∀ b o, H b = some o → b ≠ rc → H' b = some o) → SWp C A f ((fBody lawS).drop 5) L' H' Q) : SWp C A f ((fBody lawS).drop 4) L H Q := by
  refine ⟨?_⟩
  have FS : Frame f (_ :: _) := FS0
  have O' := X'.O
  have e : (fBody lawS).drop 4 = (_ :: _) := rfl
  rw [e]
  clear e
  walk_at "ww"
  refine XW.for ?_
  walk_at "ww"
  refine ⟨KeepOk.type, CallP.range1 fun rr hrr => ?_⟩
  have g0 : Ge H (upd H rr (.range 0 6 1)) := .upd hrr
  have hrr1 := upd_self H rr (.range 0 6 1)
  generalize upd H rr (.range 0 6 1) = H1 at g0 hrr1 ⊢
  refine ⟨ivs (up 0 6), fun H => H rr = some (.range 0 6 1), hrr1, (jl_up 6 ▸ range_up 6) ▸ IterP.range hA'.hd (small_up (n := 6) (by lia)), ?_⟩
  refine ForW.invT (fun xs L1 H' => Ex4 fun (i c : Nat) (rl : Int → Addr) (rt : Int → List (Addr × Int × Int)) => An6 (xs = ivs (up i c)) (i + c = 6) (∀ x : Str, x ≠ "thing" → x ≠ "told" → L1 x = L x) (RcSo H' rc rl rt i) (∀ b o, H b = some o → b ≠ rc → H' b = some o) (H' rr = some (.range 0 6 1))) ?_ ?_ ⟨0, 6, fun _ => 0, fun _ => [], rfl, rfl, fun _ _ _ => rfl, ⟨g0 _ _ hrc, by simp [jl], by simp [jl]⟩, fun b o hb _ => g0 _ _ hb, hrr1⟩
  · rintro L1 H2 ⟨i, c, rl, rt, e1, e2, hl, R, kH, hr2⟩
    cases c with
    | succ _ => cases e1
    | zero =>
      rw [Nat.add_zero] at e2
      subst e2
      with_reducible refine seqQ.next ?_
      exact (h L1 H2 rl rt hl R kH).go
  rintro x xs L1 H2 T' hT' ⟨i, c, rl, rt, e1, e2, hl, R, kH, hr2⟩
  cases c with
  | zero => cases e1
  | succ c =>
  obtain ⟨rfl, rfl⟩ := up_eq e1
  have hi6 : i < 6 := by lia
  have k1 := (hl "numbers" (by decide) (by decide)).trans l1
  have k2 := (hl "recipes" (by decide) (by decide)).trans l2
  have hnb2 := kH _ _ hnb (Ne.symm hrn)
  obtain ⟨x0, hx0⟩ : ∃ x0, nums[i]? = some x0 := ⟨_, List.getElem?_eq_getElem (by lia)⟩
  refine GW.cell ((FS.kinds _).trans rfl) (FS.cell _ rfl) ?_
  refine SW.cons ?_
  refine XW.set ?_ (swaps_comp FS.c rfl) rfl rfl
  refine EW.lcompJ FS.c rfl rfl (fun _ _ => rfl) ?_
  walk_at "ww"
  refine ⟨KeepOk.type, CallP.range1 fun r2 hr => ?_⟩
  have g3 : Ge H2 (upd H2 r2 (.range 0 i 1)) := .upd hr
  have hr3 := upd_self H2 r2 (.range 0 i 1)
  generalize upd H2 r2 (.range 0 i 1) = H3 at g3 hr3 ⊢
  refine CompJ.vals (jl i) (fun a => .int a 0) (fun _ => true) (fun a => .int (dg x0 a) 0) (fun H => H r2 = some (.range 0 i 1)) hr3 (show IterP C A (.ref r2) (ivs (jl i)) _ from range_up i ▸ IterP.range hA'.hd (small_up (by lia))) (by rw [len_jl]; lia) (fun H' g => g _ _ hr3) ?_ ?_
  · intro f' a L2 H4 ha FC g34 hlf hu
    obtain ⟨a0, a1⟩ := mem_jl.mp ha
    have hn4 : L2 "numbers" = some (.ref nb) := (hlf "numbers" rfl).trans ((setL_ne (by decide)).trans k1)
    have ht4 : L2 "thing" = some (.int i 0) := (hlf "thing" rfl).trans setL_same
    refine ifsNil ?_
    walk_at "ww"
    refine Pe2.subList (g34 _ _ (g3 _ _ hnb2)) (by lia) (ivs_get (by rw [Int.toNat_natCast]; exact hx0)) (by lia) ?_
    walk_at "ww"
    refine Pe2.pow a0 (by
      have : Builtin.Int.intBits 4 = 3 := by decide
      rw [this]; lia) ?_
    walk_at "ww"
    refine Pe2.div (pow4 a0 (by lia)).1 (PyProof.noPylong_small (pow4 a0 (by lia)).2) ?_
    walk_at "ww"
    refine Pe2.mod (by decide) ?_
    exact ⟨rfl, .refl, rfl, rfl⟩
  intro tl H4 htl g34 htl4
  rw [List.filter_eq_self.mpr (by simp)] at htl4
  refine GW.cell ((FS.kinds _).trans rfl) (FS.cell _ rfl) ?_
  have g24 := g3.trans g34
  have R4 := R.ge g24
  walk_at "ww"
  refine MethP.list R4.top F.slot_list_append F.type_list_append ?_
  refine AW.cons ?_ rfl
  refine EW.lcompP FS.c rfl rfl rfl (by decide) (fun _ _ => rfl) (fun _ _ => rfl) ?_
  walk_at "ww"
  refine ⟨KeepOk.type, CallP.range1 fun r5 hr5 => ?_⟩
  have g5 : Ge H4 (upd H4 r5 (.range 0 i 1)) := .upd hr5
  have hr5' := upd_self H4 r5 (.range 0 i 1)
  have htl5 := g5 _ _ htl4
  have R5 := R4.ge g5
  generalize upd H4 r5 (.range 0 i 1) = H5 at g5 hr5' htl5 R5 ⊢
  refine ⟨jl i, fun a => jl (cntD (dg x0 a)), fun a => (a, sgD (dg x0 a)), fun H => H r5 = some (.range 0 i 1), hr5', range_up i ▸ IterP.range hA'.hd (small_up (by lia)), fun H' g => g _ _ hr5', ?_, ?_, ?_, ?_⟩
  · have : ∀ l : List Int, (l.map fun a => (jl (cntD (dg x0 a))).length).sum ≤ l.length * 2 := by
      intro l
      induction l with
      | nil => simp
      | cons a l ih =>
        rw [List.map_cons, List.sum_cons, List.length_cons, len_jl]
        have : cntD (dg x0 a) ≤ 2 := by unfold cntD; split <;> (try split) <;> lia
        lia
    exact Nat.le_trans (this _) (by rw [len_jl]; lia)
  · intro f' a L2 H6 ha FC g56 hlf hu
    obtain ⟨a0, a1⟩ := mem_jl.mp ha
    have ht6 : L2 "told" = some (.ref tl) := (hlf "told" rfl).trans setL_same
    walk_at "ww"
    refine ⟨show 4 ≤ sizeLine by decide, fun r7 hr7 => ?_⟩
    walk_at "ww"
    have htl7 := upd_fresh (o := .list [.int 0 0, .int 1 0, .int 1 0, .int 2 0]) hr7 _ _ (g56 _ _ htl5)
    refine Pe2.subList htl7 a0 (jl_get _ ha) (by lia) ?_
    obtain ⟨d0, d4⟩ := dg_rng x0 a
    refine Pe2.subList (x := .int (cntD (dg x0 a)) 0) (upd_self ..) d0 ?_ (by lia) ?_
    · rcases dg_four x0 a with e | e | e | e <;> rw [e] <;> rfl
    walk_at "ww"
    refine ⟨KeepOk.type, CallP.range1 fun r8 hr8 => ?_⟩
    refine ⟨fun H => H r8 = some (.range 0 (cntD (dg x0 a)) 1), rfl, (Ge.upd hr7).trans (.upd hr8), upd_self .., fun b o H' hb gb => gb r8 _ ?_ (upd_self ..), range_up _ ▸ IterP.range hA'.hd (small_up ?_)⟩
    · rintro rfl
      rw [(Ge.upd hr7) _ _ hb] at hr8; cases hr8
    · unfold cntD; split <;> (try split) <;> lia
  · intro f' a m L2 H6 ha hm FC g56 hlf hu
    obtain ⟨a0, a1⟩ := mem_jl.mp ha
    have ht6 : L2 "told" = some (.ref tl) := (hlf "told" rfl).trans setL_same
    walk_at "ww"
    refine P1.neg fun t => ?_
    walk_at "ww"
    refine ⟨show 4 ≤ sizeLine by decide, fun r7 hr7 => ?_⟩
    walk_at "ww"
    have htl7 := upd_fresh (o := .list [.int 0 0, .int 1 0, .int (-1) 0, .int 1 0]) hr7 _ _ (g56 _ _ htl5)
    refine Pe2.subList htl7 a0 (jl_get _ ha) (by lia) ?_
    obtain ⟨d0, d4⟩ := dg_rng x0 a
    refine Pe2.subList (x := .int (sgD (dg x0 a)) 0) (upd_self ..) d0 ?_ (by lia) ?_
    · rcases dg_four x0 a with e | e | e | e <;> rw [e] <;> rfl
    walk_at "ww"
    refine ⟨show 2 ≤ sizeLine by decide, fun r8 hr8 => ?_⟩
    refine ⟨rfl, (Ge.upd hr7).trans (.upd hr8), r8, rfl, ?_, upd_self ..⟩
    cases q : H6 r8 with
    | none => rfl
    | some o => rw [(Ge.upd hr7) _ _ q] at hr8; cases hr8
  intro nl H6 ps g56 hnl hnl6 htp hps
  have R6 := R5.ge g56
  walk_at "ww"
  refine ⟨KeepOk.builtin, CallP.lappend R6.top (by rw [List.length_map, len_jl]; exact Nat.le_trans (show i ≤ 1000 by lia) (by decide)) ?_⟩
  have hnrc : nl ≠ rc := by first | exact no_some (R5.top) hnl | exact (no_some (R5.top) hnl).symm | exact no_some hnl (R5.top) | exact (no_some hnl (R5.top)).symm | exact two_ne (R5.top) hnl (by intro q; cases q; done) | exact (two_ne (R5.top) hnl (by intro q; cases q; done)).symm | (rintro rfl; rw [R5.top] at hnl; cases hnl)
  have g26 : Ge H2 H6 := (g24.trans g5).trans g56
  have hrr6 := g26 _ _ hr2
  have hnr : rr ≠ rc := by first | exact no_some (R.top) hr2 | exact (no_some (R.top) hr2).symm | exact no_some hr2 (R.top) | exact (no_some hr2 (R.top)).symm | exact two_ne (R.top) hr2 (by intro q; cases q; done) | exact (two_ne (R.top) hr2 (by intro q; cases q; done)).symm | (rintro rfl; rw [R.top] at hr2; cases hr2)
  walk_at "ww"
  refine hT' _ _ _ ⟨(upd_ne _ _ hnr).trans hrr6, i + 1, c, fset rl i nl, fset rt i ps, rfl, by lia, fun x h1 h2 => ?_, ?_, fun b o hb hbr => (upd_ne _ _ hbr).trans (g26 _ _ (kH b o hb hbr)), (upd_ne _ _ hnr).trans hrr6⟩
  · exact (setL_ne h2).trans ((setL_ne h1).trans (hl x h1 h2))
  have em : ∀ t ∈ jl i, t ≠ (i : Int) := fun t ht => by have := (mem_jl.mp ht).2; lia
  refine ⟨?_, fun t ht => ?_, fun t ht p hp => ?_⟩
  · rw [jl_succ, List.map_append]
    refine (upd_self ..).trans ?_
    refine congrArg (fun l => some (AO.list l)) ?_
    refine congr (congrArg _ (List.map_congr_left fun t ht => ?_)) ?_
    · rw [fset_ne _ _ (em t ht)]
    · show _ = [Value.ref (fset rl i nl i)]
      rw [fset_same]
  · rw [jl_succ] at ht
    rcases List.mem_append.mp ht with ht | ht
    · have := R6.each t ht
      rw [fset_ne _ _ (em t ht), fset_ne _ _ (em t ht)]
      exact ⟨(upd_ne _ _ this.2).trans this.1, this.2, this.3⟩
    · cases List.mem_singleton.mp ht
      rw [fset_same, fset_same]
      refine ⟨(upd_ne _ _ hnrc).trans hnl6, hnrc, ?_⟩
      have := congrArg List.length hps
      rw [List.length_map] at this
      rw [this]
      exact Nat.le_trans (flat_two (fun a => cntD_le _) _) (by rw [len_jl]; lia)
  · rw [jl_succ] at ht
    rcases List.mem_append.mp ht with ht | ht
    · rw [fset_ne _ _ (em t ht)] at hp
      have := R6.tup t ht p hp
      refine ⟨(upd_ne _ _ ?_).trans this.1, this.2, this.3, this.4⟩
      intro e; rw [e, R6.top] at this; cases this.1
    · cases List.mem_singleton.mp ht
      rw [fset_same] at hp
      have hm : p.2 ∈ ps.map Prod.snd := List.mem_map.mpr ⟨p, hp, rfl⟩
      rw [hps] at hm
      obtain ⟨a, ha, hm⟩ := List.mem_flatMap.mp hm
      obtain ⟨m, hmj, e⟩ := List.mem_map.mp hm
      obtain ⟨m0, m1⟩ := mem_jl.mp hmj
      obtain ⟨a0, a1⟩ := mem_jl.mp ha
      have hpp := htp p hp
      rw [← e]
      refine ⟨(upd_ne _ _ ?_).trans (e ▸ hpp), a0, a1, ?_⟩
      · intro e; rw [e] at hpp; rw [R6.top] at hpp; cases hpp
      · show sgD (dg x0 a) = 1 ∨ sgD (dg x0 a) = -1
        unfold sgD
        unfold cntD at m1
        split
        · next h0 => rw [if_pos h0] at m1; lia
        · split
          · exact .inr rfl
          · exact .inl rfl
end

noncomputable def wy (rt : Int → List (Addr × Int × Int)) (s t : Int) : Int := val (rcOf rt) (fun x => if x = s then 1 else 0) t
theorem RcSo.ok {H : AH} {rc : Addr} {rl : Int → Addr} {rt : Int → List (Addr × Int × Int)} (R : RcSo H rc rl rt 6) : RcOk (rcOf rt) := by
  have hj : ∀ {t : Int}, 0 ≤ t → t < 6 → t ∈ jl 6 := fun h0 h6 => mem_jl.mpr ⟨h0, h6⟩
  refine ⟨fun t h0 h6 p hp => ?_, fun t h0 h6 p hp => ?_, fun t h0 h6 => ?_⟩
  · obtain ⟨q, hq, rfl⟩ := List.mem_map.mp hp
    exact ⟨(R.tup t (hj h0 h6) q hq).2, (R.tup t (hj h0 h6) q hq).3⟩
  · obtain ⟨q, hq, rfl⟩ := List.mem_map.mp hp
    exact (R.tup t (hj h0 h6) q hq).4
  · unfold rcOf; rw [List.length_map]; exact (R.each t (hj h0 h6)).3
theorem jl6 : jl 6 = six := rfl
theorem RcSo.at {H : AH} {rc : Addr} {rl : Int → Addr} {rt : Int → List (Addr × Int × Int)} (R : RcSo H rc rl rt 6) : RcAt H rc rl rt :=
  ⟨jl6 ▸ R.top, fun t h => (R.each t (jl6 ▸ h)).1, fun t h p hp => (R.tup t (jl6 ▸ h) p hp).1, fun t h => (R.each t (jl6 ▸ h)).3⟩
theorem wy_ok {rt : Int → List (Addr × Int × Int)} (R : RcOk (rcOf rt)) : WaysOk (rcOf rt) (wy rt) := ⟨fun s t _ _ h0 h6 => val_eq R _ h0 h6⟩
section
variable {C : Cx} {A : Around} {E : Value → Shared → Prop} {f : Fm} {L : Loc} {H : AH}
theorem EW.pickI {c : Bool} {x y : Int} {k1 k2 : Nat} {p q : Pos} {K : Value → Loc → AH → Prop} (h : K (.int (if c then x else y) 0) L H) : if c = true then EW C A nx f (.Constant (.int x) k1 p) L H K else EW C A nx f (.Constant (.int y) k2 q) L H K := by
  cases c
  · exact EW.cint h
  · exact EW.cint h
set_option maxHeartbeats 4000000 in
theorem lawC (X' : Ctx C) {k : Nat} (hA' : AIn C A k) (FS0 : Frame f (fNames lawS)) {rc : Addr} {rl : Int → Addr} {rt : Int → List (Addr × Int × Int)} (R0 : RcAt H rc rl rt) (Ro : RcOk (rcOf rt)) (l1 : L "recipes" = some (.ref rc)) {Q : Flow → Loc → AH → Prop}
    (h : ∀ (L' : Loc) (H' : AH) (wb : Addr) (wl : Int → Addr), (∀ x : Str, x ≠ "ways" → x ≠ "start" → x ≠ "row" → x ≠ "thing" → L' x = L x) → L' "ways" = some (.ref wb) → H' wb = some (.list (six.map fun s => .ref (wl s))) → (∀ s ∈ six, H' (wl s) = some (.list (ivs (six.map (wy rt s))))) → Ge H H' → SWp C A f ((fBody lawS).drop 7) L' H' Q) : SWp C A f ((fBody lawS).drop 5) L H Q := by
  refine ⟨?_⟩
  have FS : Frame f (_ :: _) := FS0
  have O' := X'.O
  have e : (fBody lawS).drop 5 = (_ :: _) := rfl
  rw [e]
  clear e
  walk_at "ww"
  refine ⟨Nat.zero_le _, fun wb hwb => ?_⟩
  refine GW.cell ((FS.kinds _).trans rfl) (FS.cell _ rfl) ?_
  have g0 : Ge H (upd H wb (.list [])) := .upd hwb
  have hwb1 := upd_self H wb (.list [])
  generalize upd H wb (.list []) = H1 at g0 hwb1 ⊢
  walk_at "ww"
  refine XW.for ?_
  walk_at "ww"
  refine ⟨KeepOk.type, CallP.range1 fun rr hrr => ?_⟩
  have g1 : Ge H (upd H1 rr (.range 0 6 1)) := g0.trans (.upd hrr)
  have hrr1 := upd_self H1 rr (.range 0 6 1)
  have hwb2 := upd_fresh (o := .range 0 6 1) hrr _ _ hwb1
  generalize upd H1 rr (.range 0 6 1) = H2 at g1 hrr1 hwb2 ⊢
  refine ⟨ivs (up 0 6), fun H => H rr = some (.range 0 6 1), hrr1, (jl_up 6 ▸ range_up 6) ▸ IterP.range hA'.hd (small_up (n := 6) (by lia)), ?_⟩
  refine ForW.invT (fun xs L1 H' => Ex3 fun (i c : Nat) (wl : Int → Addr) => An8 (xs = ivs (up i c)) (i + c = 6) (∀ x : Str, x ≠ "ways" → x ≠ "start" → x ≠ "row" → x ≠ "thing" → L1 x = L x) (L1 "ways" = some (.ref wb)) (H' wb = some (.list ((jl i).map fun s => .ref (wl s)))) (∀ s ∈ jl i, H' (wl s) = some (.list (ivs (six.map (wy rt s)))) ∧ wl s ≠ wb) (Ge H H') (H' rr = some (.range 0 6 1))) ?_ ?_ ⟨0, 6, fun _ => 0, rfl, rfl, fun x h1 _ _ _ => setL_ne h1, setL_same, hwb2, by simp [jl], g1, hrr1⟩
  · rintro L1 H2 ⟨i, c, wl, e1, e2, hl, hwl, hw, hws, g, hr2⟩
    cases c with
    | succ _ => cases e1
    | zero =>
      rw [Nat.add_zero] at e2
      subst e2
      with_reducible refine seqQ.next ?_
      exact (h L1 H2 wb wl hl hwl hw (fun s hs => (hws s (jl6 ▸ hs)).1) g).go
  rintro x xs L1 H2 T' hT' ⟨i, c, wl, e1, e2, hl, hwl, hw, hws, g, hr2⟩
  cases c with
  | zero => cases e1
  | succ c =>
  obtain ⟨rfl, rfl⟩ := up_eq e1
  have hi6 : i < 6 := by lia
  have k2 := (hl "recipes" (by decide) (by decide) (by decide) (by decide)).trans l1
  walk_at "ww"
  refine ⟨Nat.zero_le _, fun row hrow => ?_⟩
  refine GW.cell ((FS.kinds _).trans rfl) (FS.cell _ rfl) ?_
  have g2 : Ge H2 (upd H2 row (.list [])) := .upd hrow
  have hrow1 : upd H2 row (.list []) row = some (.list (ivs [])) := upd_self H2 row (.list [])
  have row2 : ∀ b o, H2 b = some o → b ≠ row := fun b o hb => by first | exact no_some (hrow) hb | exact (no_some (hrow) hb).symm | exact no_some hb (hrow) | exact (no_some hb (hrow)).symm | exact two_ne (hrow) hb (by intro q; cases q; done) | exact (two_ne (hrow) hb (by intro q; cases q; done)).symm | (rintro rfl; rw [hrow] at hb; cases hb)
  generalize upd H2 row (.list []) = H3 at g2 hrow1 ⊢
  walk_at "ww"
  refine XW.for ?_
  walk_at "ww"
  refine ⟨KeepOk.type, CallP.range1 fun r2 hr => ?_⟩
  have g3 : Ge H2 (upd H3 r2 (.range 0 6 1)) := g2.trans (.upd hr)
  have hr3 := upd_self H3 r2 (.range 0 6 1)
  have hrow2 := upd_fresh (o := .range 0 6 1) hr _ _ hrow1
  have hr2row : r2 ≠ row := by first | exact no_some (hrow1) hr | exact (no_some (hrow1) hr).symm | exact no_some hr (hrow1) | exact (no_some hr (hrow1)).symm | exact two_ne (hrow1) hr (by intro q; cases q; done) | exact (two_ne (hrow1) hr (by intro q; cases q; done)).symm | (rintro rfl; rw [hrow1] at hr; cases hr)
  generalize upd H3 r2 (.range 0 6 1) = H4 at g3 hr3 hrow2 ⊢
  refine ⟨ivs (up 0 6), fun H => H r2 = some (.range 0 6 1), hr3, (jl_up 6 ▸ range_up 6) ▸ IterP.range hA'.hd (small_up (n := 6) (by lia)), ?_⟩
  refine ForW.invT (fun xs L2 H' => Ex2 fun (j c : Nat) => An6 (xs = ivs (up j c)) (j + c = 6) (∀ x : Str, x ≠ "thing" → L2 x = setL (setL L1 "start" (.int i 0)) "row" (.ref row) x) (H' row = some (.list (ivs ((jl j).map (wy rt i))))) (Ge H2 H') (H' r2 = some (.range 0 6 1))) ?_ ?_ ⟨0, 6, rfl, rfl, fun _ _ => rfl, hrow2, g3, hr3⟩
  · rintro L2 H5 ⟨j, d, e3, e4, hl2, hrw, g25, hr5⟩
    cases d with
    | succ _ => cases e3
    | zero =>
    rw [Nat.add_zero] at e4
    subst e4
    have q1 : L2 "ways" = some (.ref wb) := (hl2 "ways" (by decide)).trans ((setL_ne (by decide)).trans ((setL_ne (by decide)).trans hwl))
    have q2 : L2 "row" = some (.ref row) := (hl2 "row" (by decide)).trans setL_same
    have hwbr : wb ≠ row := row2 _ _ hw
    walk_at "ww"
    refine MethP.list (g25 _ _ hw) F.slot_list_append F.type_list_append ?_
    walk_at "ww"
    refine ⟨KeepOk.builtin, CallP.lappend (g25 _ _ hw) (by rw [List.length_map, len_jl]; exact Nat.le_trans (show i ≤ 1000 by lia) (by decide)) ?_⟩
    walk_at "ww"
    have em : ∀ t ∈ jl i, t ≠ (i : Int) := fun t ht => by have := (mem_jl.mp ht).2; lia
    have hrrw : rr ≠ wb := by first | exact no_some (hr2) hw | exact (no_some (hr2) hw).symm | exact no_some hw (hr2) | exact (no_some hw (hr2)).symm | exact two_ne (hr2) hw (by intro q; cases q; done) | exact (two_ne (hr2) hw (by intro q; cases q; done)).symm | (rintro rfl; rw [hr2] at hw; cases hw)
    refine hT' _ _ _ ⟨(upd_ne _ _ hrrw).trans (g25 _ _ hr2), i + 1, c, fset wl i row, rfl, by lia, fun x h1 h2 h3 h4 => ?_, q1, ?_, fun s hs => ?_, ?_, (upd_ne _ _ hrrw).trans (g25 _ _ hr2)⟩
    · exact (hl2 x h4).trans ((setL_ne h3).trans ((setL_ne h2).trans (hl x h1 h2 h3 h4)))
    · rw [jl_succ, List.map_append]
      refine (upd_self ..).trans ?_
      refine congrArg (fun l => some (AO.list l)) ?_
      refine congr (congrArg _ (List.map_congr_left fun t ht => ?_)) ?_
      · rw [fset_ne _ _ (em t ht)]
      · show _ = [Value.ref (fset wl i row i)]
        rw [fset_same]
    · rw [jl_succ] at hs
      rcases List.mem_append.mp hs with hs | hs
      · rw [fset_ne _ _ (em s hs)]
        exact ⟨(upd_ne _ _ (hws s hs).2).trans (g25 _ _ (hws s hs).1), (hws s hs).2⟩
      · cases List.mem_singleton.mp hs
        rw [fset_same]
        exact ⟨(upd_ne _ _ hwbr.symm).trans hrw, hwbr.symm⟩
    · intro b o hb
      refine (upd_ne _ _ ?_).trans (g25 _ _ (g _ _ hb))
      rintro rfl
      rw [hwb] at hb; cases hb
  rintro x xs L2 H5 T2 hT2 ⟨j, d, e3, e4, hl2, hrw, g25, hr5⟩
  cases d with
  | zero => cases e3
  | succ d =>
  obtain ⟨rfl, rfl⟩ := up_eq e3
  have hj6 : j < 6 := by lia
  have hjs : (j : Int) ∈ six := mem_six.mpr ⟨by lia, by lia⟩
  have q0 : L2 "start" = some (.int i 0) := (hl2 "start" (by decide)).trans ((setL_ne (by decide)).trans setL_same)
  have q2 : L2 "row" = some (.ref row) := (hl2 "row" (by decide)).trans setL_same
  have q3 : L2 "recipes" = some (.ref rc) := (hl2 "recipes" (by decide)).trans ((setL_ne (by decide)).trans ((setL_ne (by decide)).trans k2))
  refine GW.cell ((FS.kinds _).trans rfl) (FS.cell _ rfl) ?_
  have R5 := (R0.ge g).ge g25
  walk_at "ww"
  refine MethP.list hrw F.slot_list_append F.type_list_append ?_
  refine AW.cons ?_ rfl
  walk_at "ww"
  refine P2.eq ?_
  refine ⟨_, rfl, ?_⟩
  refine EW.pickI ?_
  walk_at "ww"
  refine EW.lcompT hA'.hd FS.c rfl rfl rfl (by decide) (fun _ _ => rfl) ?_
  walk_at "ww"
  refine Pe2.subList R5.top (by lia) (six_get _ (by lia) (by lia)) (by lia) ?_
  have hcv : ∀ w : List Int, w = (jl j).map (wy rt i) → ∀ t : Int, 0 ≤ t → t < j → w[t.toNat]? = some (wy rt i t) := fun w e t h0 h1 => by rw [e]; exact jl_get _ (mem_jl.mpr ⟨h0, h1⟩)
  refine ⟨(rt j).map fun p => (p.1, Value.int p.2.1 0, Value.int p.2.2 0), fun q => match q.2 with | (.int b _, .int s _) => .int (s * wy rt i b) 0 | _ => .none, fun H => H (rl j) = some (.list ((rt j).map fun p => .ref p.1)), R5.each j hjs, ?_, fun H' g => g _ _ (R5.each j hjs), by rw [List.length_map]; exact Nat.le_trans (R5.len j hjs) (by decide), ?_, ?_, ?_⟩
  · rw [List.map_map]
    exact IterP.list hA'.hd
  · intro q hq
    obtain ⟨p, hp, rfl⟩ := List.mem_map.mp hq
    exact R5.tup j hjs p hp
  · intro f2 q L3 H6 hq FC2 g56 hlf hx hy
    obtain ⟨p, hp, rfl⟩ := List.mem_map.mp hq
    have hpr : p.2 ∈ rcOf rt j := List.mem_map.mpr ⟨p, hp, rfl⟩
    have hlt := Ro.lt j (by lia) (by lia) _ hpr
    have hv3 : L3 "row" = some (.ref row) := (hlf "row" rfl).trans ((setL_ne (by decide)).trans q2)
    walk_at "ww"
    refine Pe2.subList (g56 _ _ hrw) hlt.1 (ivs_get (hcv _ rfl _ hlt.1 hlt.2)) (by lia) ?_
    walk_at "ww"
    refine Pe2.mul (mulL ?_) ?_
    · rcases Ro.sg j (by lia) (by lia) _ hpr with e | e <;> rw [e] <;> decide
    exact ⟨rfl, .refl, rfl⟩
  intro r3 H6 g56 hr3' hr3''
  have hr4 : H6 r3 = some (.list (ivs ((rcOf rt j).map fun p => p.2 * wy rt i p.1))) := by
    rw [hr3'', List.map_map]
    simp [ivs, rcOf, Function.comp_def]
  walk_at "ww"
  refine ⟨KeepOk.builtin, CallP.sumInts hA'.hd hr4 ?_⟩
  refine Pe2.add ?_
  have hw := (wy_ok Ro).eq i j (by lia) (by lia) (by lia) (by lia)
  have hv : (if ((j : Int) == (i : Int)) = true then (1 : Int) else 0) + ((rcOf rt j).map fun p => p.2 * wy rt i p.1).sum = wy rt i j := by
    rw [hw]; congr 1
    by_cases e : (j : Int) = i
    · rw [if_pos (beq_iff_eq.mpr e), if_pos e]
    · rw [if_neg (fun h => e (beq_iff_eq.mp h)), if_neg e]
  rw [hv]
  walk_at "ww"
  refine ⟨KeepOk.builtin, CallP.lappend (g56 _ _ hrw) (by rw [ivs_len, List.length_map, len_jl]; exact Nat.le_trans (show j ≤ 1000 by lia) (by decide)) ?_⟩
  walk_at "ww"
  have hrw5 : ∀ b o, H2 b = some o → b ≠ row := row2
  have hnr : r2 ≠ row := hr2row
  refine hT2 _ _ _ ⟨(upd_ne _ _ hnr).trans (g56 _ _ hr5), j + 1, d, rfl, by lia, fun x h1 => (setL_ne h1).trans (hl2 x h1), ?_, fun b o hb => (upd_ne _ _ (row2 b o hb)).trans (g56 _ _ (g25 _ _ hb)), (upd_ne _ _ hnr).trans (g56 _ _ hr5)⟩
  refine (upd_self ..).trans ?_
  rw [jl_succ, List.map_append]
  simp [ivs]
end

set_option genInjectivity false in
structure MX (H : AH) (M : Addr) (n : Nat) (ra : Int → Addr) (m : Int → Int → Bool) : Prop where
  top : H M = some (.list ((jl n).map fun a => .ref (ra a)))
  row : ∀ a ∈ jl n, H (ra a) = some (.list ((jl n).map fun b => .bool (m a b)))
  inj : ∀ a ∈ jl n, ∀ b ∈ jl n, ra a = ra b → a = b
  off : ∀ a ∈ jl n, ra a ≠ M
theorem MX.ge {H H' : AH} {M : Addr} {n : Nat} {ra : Int → Addr} {m : Int → Int → Bool} (x : MX H M n ra m) (g : Ge H H') : MX H' M n ra m := ⟨g _ _ x.top, fun a ha => g _ _ (x.row a ha), x.inj, x.off⟩
theorem MX.congr {H : AH} {M : Addr} {n : Nat} {ra : Int → Addr} {m m' : Int → Int → Bool} (x : MX H M n ra m) (e : ∀ a ∈ jl n, ∀ b ∈ jl n, m a b = m' a b) : MX H M n ra m' :=
  ⟨x.top, fun a ha => by rw [x.row a ha, List.map_congr_left fun b hb => by rw [e a ha b hb]], x.inj, x.off⟩
theorem jl_set {α : Type} {n : Nat} {a : Int} (f : Int → α) (v : α) (ha : a ∈ jl n) : ((jl n).map f).set a.toNat v = (jl n).map fun x => if x = a then v else f x := by
  have hh := mem_jl.mp ha
  apply List.ext_getElem?
  intro i
  unfold jl
  rw [List.getElem?_set, List.map_map, List.map_map, List.length_map, List.length_range, List.getElem?_map, List.getElem?_map]
  by_cases hi : i < n
  · rw [List.getElem?_range hi]
    by_cases e : a.toNat = i
    · subst e
      rw [if_pos rfl, if_pos hi]
      show _ = some (if ((a.toNat : Nat) : Int) = a then v else _)
      rw [if_pos (Int.toNat_of_nonneg hh.1)]
    · rw [if_neg e]
      show some (f ((i : Nat) : Int)) = some (if ((i : Nat) : Int) = a then v else f ((i : Nat) : Int))
      rw [if_neg (by lia)]
  · rw [List.getElem?_eq_none (by simpa using hi)]
    have : a.toNat ≠ i := by lia
    rw [if_neg this]; rfl
theorem MX.of {H1 H : AH} {M : Addr} {n : Nat} {m : Int → Int → Bool} {ps : List (Addr × List Value)} (ht : H M = some (.list (ps.map fun p => .ref p.1))) (hp : ∀ p ∈ ps, H1 p.1 = none ∧ p.1 ≠ M ∧ H p.1 = some (.list p.2)) (e : ps.map (·.2) = (jl n).map fun a => (jl n).map fun b => .bool (m a b)) (nd : (ps.map (·.1)).Nodup) : ∃ ra, MX H M n ra m ∧ ∀ a ∈ jl n, H1 (ra a) = none := by
  obtain ⟨ra, rfl⟩ := lift_fun (nd_jl n) e
  refine ⟨ra, ⟨by rw [ht, List.map_map]; rfl, fun a ha => (hp _ (List.mem_map.mpr ⟨a, ha, rfl⟩)).2.2, fun a ha b hb e => ?_, fun a ha => (hp _ (List.mem_map.mpr ⟨a, ha, rfl⟩)).2.1⟩, fun a ha => (hp _ (List.mem_map.mpr ⟨a, ha, rfl⟩)).1⟩
  rw [List.map_map] at nd
  have : ∀ {l : List Int}, (l.map ra).Nodup → a ∈ l → b ∈ l → a = b := by
    intro l
    induction l with
    | nil => intro _ h; cases h
    | cons x l ih =>
      intro nd h1 h2
      rw [List.map_cons, List.nodup_cons] at nd
      rcases List.mem_cons.mp h1 with e1 | i1 <;> rcases List.mem_cons.mp h2 with e2 | i2
      · exact e1.trans e2.symm
      · rw [← e1] at nd; exact absurd (List.mem_map.mpr ⟨b, i2, e.symm⟩) nd.1
      · rw [← e2] at nd; exact absurd (List.mem_map.mpr ⟨a, i1, e⟩) nd.1
      · exact ih nd.2 i1 i2
  exact this nd ha hb
section
variable {C : Cx} {A : Around} {E : Value → Shared → Prop} {H H0 : AH} {M : Addr} {n : Nat} {ra : Int → Addr} {m : Int → Int → Bool} {a b : Int}
theorem MX.sub1 {ve ie : Expr} {Q : Value → AH → Prop} (x : MX H M n ra m) (hn : n ≤ 6) (ha : a ∈ jl n) (h : ∀ v, er v = .ref (ra a) → Q v H) (hs : isSlice ie = false := by rfl) : P2 C A E (subscriptTail ve ie) (.ref M) (.int a 0) H Q := by
  have := mem_jl.mp ha
  exact P2.subList x.top (by lia) (jl_get _ ha) (by lia) h hs
theorem MX.sub2 {ve ie : Expr} {Q : Value → AH → Prop} (x : MX H M n ra m) (hn : n ≤ 6) (ha : a ∈ jl n) (hb : b ∈ jl n) (h : ∀ v, er v = .bool (m a b) → Q v H) (hs : isSlice ie = false := by rfl) : P2 C A E (subscriptTail ve ie) (.ref (ra a)) (.int b 0) H Q := by
  have := mem_jl.mp hb
  exact P2.subList (x.row a ha) (by lia) (jl_get _ hb) (by lia) h hs
theorem MX.set (x : MX H M n ra m) (ha : a ∈ jl n) (hb : b ∈ jl n) : MX (upd H (ra a) (.list (((jl n).map fun y => Value.bool (m a y)).set b.toNat (.bool true)))) M n ra (fun x y => if x = a ∧ y = b then true else m x y) := by
  refine ⟨?_, fun c hc => ?_, x.inj, x.off⟩
  · rw [upd_ne _ _ (x.off a ha).symm]; exact x.top
  · by_cases e : c = a
    · subst e
      rw [upd_self, jl_set _ _ hb]
      congr 2
      refine List.map_congr_left fun y _ => ?_
      by_cases e : y = b <;> simp [e]
    · rw [upd_ne _ _ (fun q => e (x.inj c hc a ha q)), x.row c hc]
      congr 2
      refine List.map_congr_left fun y _ => ?_
      simp [e]
end
section
variable {C : Cx} {A : Around} {E : Value → Shared → Prop} {H H0 : AH} {ep n : Nat} {g : Int → List Int} {la : Int → Addr} {gd : Addr}
theorem iter_up {r : Addr} {n : Nat} (hh : A.handled = none) (hn : n ≤ 5000) : IterP C A (.ref r) (ivs (jl n)) (fun H => H r = some (.range 0 n 1)) := range_up n ▸ IterP.range hh (small_up hn)
theorem iter_up0 {r : Addr} {n : Nat} (hh : A.handled = none) (hn : n ≤ 5000) : IterP C A (.ref r) (ivs (up 0 n)) (fun H => H r = some (.range 0 n 1)) := jl_up n ▸ iter_up hh hn
noncomputable def wst (b : Int → Int → Bool) (mi a c : Nat) (x y : Int) : Bool := if x < a ∨ x = a ∧ y < c then pw b (mi + 1) x y else pw b mi x y
theorem pw_mid1 (b : Int → Int → Bool) (mi : Nat) (x : Int) : pw b (mi + 1) x mi = pw b mi x mi := by
  show (pw b mi x mi || (pw b mi x mi && pw b mi mi mi)) = _
  cases pw b mi x mi <;> simp
theorem pw_mid2 (b : Int → Int → Bool) (mi : Nat) (y : Int) : pw b (mi + 1) mi y = pw b mi mi y := by
  show (pw b mi mi y || (pw b mi mi mi && pw b mi mi y)) = _
  cases pw b mi mi y <;> simp
theorem wst_m1 (b : Int → Int → Bool) (mi a c : Nat) (x : Int) : wst b mi a c x mi = pw b mi x mi := by
  unfold wst; split
  · exact pw_mid1 b mi x
  · rfl
theorem wst_m2 (b : Int → Int → Bool) (mi a c : Nat) (y : Int) : wst b mi a c mi y = pw b mi mi y := by
  unfold wst; split
  · exact pw_mid2 b mi y
  · rfl
end

noncomputable def ndJ (rt : Int → List (Addr × Int × Int)) (t : Int) : List Int := (rcOf rt t).map (·.1)
noncomputable abbrev ldJ (rt : Int → List (Addr × Int × Int)) : Int → Int → Bool := lds (ndJ rt) 6
theorem ndJ_lt {rt : Int → List (Addr × Int × Int)} (R : RcOk (rcOf rt)) : ∀ j ∈ jl 6, ∀ a ∈ ndJ rt j, 0 ≤ a ∧ a < j := by
  intro j hj a ha
  have := mem_jl.mp hj
  obtain ⟨p, hp, rfl⟩ := List.mem_map.mp ha
  exact R.lt j this.1 (by lia) p hp
theorem ldJ_ok {rt : Int → List (Addr × Int × Int)} (R : RcOk (rcOf rt)) : LdOk (rcOf rt) (ldJ rt) := by
  refine ⟨fun a t h => (pw_lt (ndJ_lt R) h).2.2.1, fun a t h0 h6 => ?_⟩
  have ht : t ∈ jl 6 := mem_jl.mpr ⟨h0, h6⟩
  rw [show ldJ rt a t = true ↔ Ld (ndJ rt) a t from lds_Ld (ndJ_lt R) ht]
  constructor
  · intro h
    cases h with
    | base h =>
      obtain ⟨p, hp, rfl⟩ := List.mem_map.mp h
      exact ⟨p, hp, .inl rfl⟩
    | @step m _ h1 h2 =>
      have := ndJ_lt R t ht m h2
      obtain ⟨p, hp, rfl⟩ := List.mem_map.mp h2
      exact ⟨p, hp, .inr ((lds_Ld (ndJ_lt R) (mem_jl.mpr ⟨this.1, by lia⟩)).mpr h1)⟩
  · rintro ⟨p, hp, h⟩
    have hm : p.1 ∈ ndJ rt t := List.mem_map.mpr ⟨p, hp, rfl⟩
    rcases h with rfl | h
    · exact .base hm
    · have := ndJ_lt R t ht _ hm
      exact .step ((lds_Ld (ndJ_lt R) (mem_jl.mpr ⟨this.1, by lia⟩)).mp h) hm
section
variable {C : Cx} {A : Around} {E : Value → Shared → Prop} {f : Fm} {L : Loc} {H : AH}
theorem CallP.range6 {n : Nat} {Q : Value → AH → Prop} (hn : n = 6) (h : ∀ r, H r = none → Q (.ref r) (upd H r (.range 0 n 1))) : CallP C A E (.type "range") [.int 6 0] H Q := by subst hn; exact CallP.range1 h
set_option maxHeartbeats 4000000 in
theorem lawD (X' : Ctx C) {k : Nat} (hA' : AIn C A k) (FS0 : Frame f (fNames lawS)) {rc : Addr} {rl : Int → Addr} {rt : Int → List (Addr × Int × Int)} (R0 : RcAt H rc rl rt) (l1 : L "recipes" = some (.ref rc)) {Q : Flow → Loc → AH → Prop}
    (h : ∀ (L' : Loc) (H' : AH) (LD : Addr) (ra : Int → Addr), (∀ x : Str, x ≠ "leads" → x ≠ "middle" → x ≠ "a" → x ≠ "b" → L' x = L x) → L' "leads" = some (.ref LD) → MX H' LD 6 ra (ldJ rt) → Ge H H' → SWp C A f ((fBody lawS).drop 9) L' H' Q) : SWp C A f ((fBody lawS).drop 7) L H Q := by
  refine ⟨?_⟩
  have FS : Frame f (_ :: _) := FS0
  have O' := X'.O
  obtain ⟨n, hn⟩ : ∃ n, n = 6 := ⟨_, rfl⟩
  have hn5 : n ≤ 6 := by lia
  have e : (fBody lawS).drop 7 = (_ :: _) := rfl
  rw [e]
  clear e
  walk_at "ww"
  refine XW.set ?_ (swaps_comp FS.c rfl) rfl rfl
  refine EW.lcompJ FS.c rfl rfl (fun _ _ => rfl) ?_
  walk_at "ww"
  refine ⟨KeepOk.type, CallP.range6 hn fun r0 h0 => ?_⟩
  have g1 : Ge H (upd H r0 (.range 0 n 1)) := .upd h0
  have hr1 := upd_self H r0 (.range 0 n 1)
  generalize upd H r0 (.range 0 n 1) = H1 at g1 hr1 ⊢
  refine CompJ.objs .list (jl n) (fun a => .int a 0) (fun a => (jl n).map fun b => .bool (bs (ndJ rt) n a b)) (fun H => H r0 = some (.range 0 n 1)) hr1 (iter_up hA'.hd (by lia)) (by rw [len_jl]; lia) (fun H' g => g _ _ hr1) ?_ ?_
  · intro f' a L2 H2 ha FC g2 hl hu
    have hg2 : L2 "recipes" = some (.ref rc) := (hl "recipes" rfl).trans (by walk_at "wloc")
    refine EW.lcompJ FC rfl rfl (fun _ _ => rfl) ?_
    walk_at "ww"
    refine ⟨KeepOk.type, CallP.range6 hn fun r1 h1 => ?_⟩
    have g3 : Ge H2 (upd H2 r1 (.range 0 n 1)) := .upd h1
    have hr3 := upd_self H2 r1 (.range 0 n 1)
    generalize upd H2 r1 (.range 0 n 1) = H3 at g3 hr3 ⊢
    refine CompJ.vals (jl n) (fun a => .int a 0) (fun _ => true) (fun b => .bool (bs (ndJ rt) n a b)) (fun H => H r1 = some (.range 0 n 1)) hr3 (iter_up hA'.hd (by lia)) (by rw [len_jl]; lia) (fun H' g => g _ _ hr3) ?_ ?_
    · intro f2 b L4 H4 hb FC2 g4 hl2 hu2
      have ha4 : L4 "a" = some (.int a 0) := (hl2 "a" rfl).trans hu
      have hg4 : L4 "recipes" = some (.ref rc) := (hl2 "recipes" rfl).trans hg2
      have R4 := R0.ge (g1.trans (g2.trans (g3.trans g4)))
      obtain ⟨b0, b1⟩ := mem_jl.mp hb
      have hbs : b ∈ six := mem_six.mpr ⟨b0, by lia⟩
      refine ifsNil ?_
      walk_at "ww"
      refine EW.lcompT hA'.hd FC2 rfl rfl rfl (by decide) (fun _ _ => rfl) ?_
      walk_at "ww"
      refine Pe2.subList R4.top b0 (six_get _ b0 (by lia)) (by lia) ?_
      refine ⟨(rt b).map fun p => (p.1, Value.int p.2.1 0, Value.int p.2.2 0), fun p => p.2.1, fun H => H (rl b) = some (.list ((rt b).map fun p => .ref p.1)), R4.each b hbs, ?_, fun H' g => g _ _ (R4.each b hbs), by rw [List.length_map]; exact Nat.le_trans (R4.len b hbs) (by decide), ?_, ?_, ?_⟩
      · rw [List.map_map]
        exact IterP.list hA'.hd
      · intro q hq
        obtain ⟨p, hp, rfl⟩ := List.mem_map.mp hq
        exact R4.tup b hbs p hp
      · intro f3 q L5 H5 hq FC3 g45 hl3 hx hy
        walk_at "ww"
        exact ⟨rfl, .refl, rfl⟩
      intro r H5 g45 hr hr'
      have hr5 : H5 r = some (.list (ivs (ndJ rt b))) := by
        rw [hr', List.map_map]
        simp [ivs, ndJ, rcOf, Function.comp_def]
      refine P2.inList hr5 ⟨rfl, g45, rfl, ?_⟩
      show Value.bool _ = Value.bool _
      congr 1
      unfold bs
      rw [Bool.eq_iff_iff]
      simp [hb]
    · intro l3 H4 hl3 g4 hl4
      have ft : ((jl n).filter fun _ => true) = jl n := by simp
      rw [ft] at hl4
      refine ⟨rfl, g3.trans g4, l3, rfl, ?_, hl4⟩
      cases e : H2 l3 with
      | none => rfl
      | some o => rw [g3 _ _ e] at hl3; cases hl3
  intro LD H2 ps hLD g2 hLD2 hps eps nd
  obtain ⟨ra, M2, nra⟩ := MX.of (m := bs (ndJ rt) n) hLD2 hps eps nd
  have hF : ∀ b o, H1 b = some o → ¬ ∃ a ∈ jl n, ra a = b := by
    rintro b o hb ⟨a, ha, rfl⟩
    rw [nra a ha] at hb; cases hb
  clear eps nd hps hLD2 hr1 h0 hLD
  walk_at "ww"
  refine XW.for ?_
  walk_at "ww"
  refine ⟨KeepOk.type, CallP.range6 hn fun r0 h0 => ?_⟩
  have g3 : Ge H2 (upd H2 r0 (.range 0 n 1)) := .upd h0
  have hr3 := upd_self H2 r0 (.range 0 n 1)
  have nr0 : ¬ ∃ a ∈ jl n, ra a = r0 := fun ⟨a, ha, e⟩ => ne_of_none (M2.row a ha) h0 e
  generalize upd H2 r0 (.range 0 n 1) = H3 at g3 hr3 ⊢
  have M3 := M2.ge g3
  have g13 := g2.trans g3
  clear M2 g2 g3 h0
  refine ⟨ivs (up 0 n), fun H => H r0 = some (.range 0 n 1), hr3, iter_up0 hA'.hd (by lia), ?_⟩
  refine ForW.invT (fun xs L1 H' => Ex2 fun mi c => An5 (xs = ivs (up mi c)) (mi + c = n) (An3 (∀ x : Str, x ≠ "leads" → x ≠ "middle" → x ≠ "a" → x ≠ "b" → L1 x = L x) True (L1 "leads" = some (.ref LD))) (Fx (fun b => ∃ a ∈ jl n, ra a = b) H3 H') (MX H' LD n ra (pw (bs (ndJ rt) n) mi))) ?_ ?_
    ⟨0, n, rfl, by lia, ⟨fun x h1 h2 h3 h4 => setL_ne h1, trivial, by walk_at "wloc"⟩, .refl, M3⟩
  rotate_left
  · rintro x xs L2 H4 T1 hT1 ⟨mi, c, e1, e2, ⟨m1, m2, m3⟩, F4, M4⟩
    cases c with
    | zero => cases e1
    | succ c =>
    obtain ⟨rfl, rfl⟩ := up_eq e1
    have hmi : (mi : Int) ∈ jl n := mem_jl.mpr (by lia)
    walk_at "ww"
    refine XW.for ?_
    walk_at "ww"
    refine ⟨KeepOk.type, CallP.range6 hn fun r1 h1 => ?_⟩
    have hr5 := upd_self H4 r1 (.range 0 n 1)
    have nr1 : ¬ ∃ a ∈ jl n, ra a = r1 := fun ⟨a, ha, e⟩ => ne_of_none (M4.row a ha) h1 e
    have F5 : Fx (fun b => ∃ a ∈ jl n, ra a = b) H3 (upd H4 r1 (.range 0 n 1)) := F4.trans (.of_ge (.upd h1))
    have M5 := M4.ge (Ge.upd (o := .range 0 n 1) h1)
    generalize upd H4 r1 (.range 0 n 1) = H5 at hr5 F5 M5 ⊢
    refine ⟨ivs (up 0 n), fun H => H r1 = some (.range 0 n 1), hr5, iter_up0 hA'.hd (by lia), ?_⟩
    refine ForW.invT (fun xs L1 H' => Ex2 fun i c => An5 (xs = ivs (up i c)) (i + c = n) (An4 (∀ x : Str, x ≠ "leads" → x ≠ "middle" → x ≠ "a" → x ≠ "b" → L1 x = L x) True (L1 "leads" = some (.ref LD)) (L1 "middle" = some (.int mi 0))) (Fx (fun b => ∃ a ∈ jl n, ra a = b) H5 H') (MX H' LD n ra (wst (bs (ndJ rt) n) mi i 0))) ?_ ?_
      ⟨0, n, rfl, by lia, ⟨fun x h1 h2 h3 h4 => (setL_ne h2).trans (m1 x h1 h2 h3 h4), trivial, by walk_at "wloc", by walk_at "wloc"⟩, .refl, M5.congr fun a ha b hb => by
        have h1 := mem_jl.mp ha
        have h2 := mem_jl.mp hb
        unfold wst
        rw [if_neg (by lia)]⟩
    · rintro L3 H6 ⟨i, c', e3, e4, ⟨p1, p2, p3, p4⟩, F6, M6⟩
      cases c' with
      | succ c' => cases e3
      | zero =>
        obtain rfl : i = n := by lia
        have F7 := F5.trans F6
        walk_at "ww"
        refine hT1 _ _ _ ⟨F7 _ _ hr3 nr0, mi + 1, c, rfl, by lia, ⟨p1, p2, p3⟩, F7, M6.congr fun a ha b hb => ?_⟩
        have h1 := mem_jl.mp ha
        unfold wst
        rw [if_pos (by lia)]
    rintro x3 xs3 L3 H6 T2 hT2 ⟨i, c', e3, e4, ⟨p1, p2, p3, p4⟩, F6, M6⟩
    cases c' with
    | zero => cases e3
    | succ c' =>
    obtain ⟨rfl, rfl⟩ := up_eq e3
    have hi : (i : Int) ∈ jl n := mem_jl.mpr (by lia)
    walk_at "ww"
    refine XW.for ?_
    walk_at "ww"
    refine ⟨KeepOk.type, CallP.range6 hn fun r2 h2 => ?_⟩
    have hr7 := upd_self H6 r2 (.range 0 n 1)
    have nr2 : ¬ ∃ a ∈ jl n, ra a = r2 := fun ⟨a, ha, e⟩ => ne_of_none (M6.row a ha) h2 e
    have F7 : Fx (fun b => ∃ a ∈ jl n, ra a = b) H5 (upd H6 r2 (.range 0 n 1)) := F6.trans (.of_ge (.upd h2))
    have M7 := M6.ge (Ge.upd (o := .range 0 n 1) h2)
    generalize upd H6 r2 (.range 0 n 1) = H7 at hr7 F7 M7 ⊢
    refine ⟨ivs (up 0 n), fun H => H r2 = some (.range 0 n 1), hr7, iter_up0 hA'.hd (by lia), ?_⟩
    refine ForW.invT (fun xs L1 H' => Ex2 fun q c => An5 (xs = ivs (up q c)) (q + c = n) (An5 (∀ x : Str, x ≠ "leads" → x ≠ "middle" → x ≠ "a" → x ≠ "b" → L1 x = L x) True (L1 "leads" = some (.ref LD)) (L1 "middle" = some (.int mi 0)) (L1 "a" = some (.int i 0))) (Fx (fun b => ∃ a ∈ jl n, ra a = b) H7 H') (MX H' LD n ra (wst (bs (ndJ rt) n) mi i q))) ?_ ?_
      ⟨0, n, rfl, by lia, ⟨fun x h1 h2 h3 h4 => (setL_ne h3).trans (p1 x h1 h2 h3 h4), trivial, by walk_at "wloc", by walk_at "wloc", by walk_at "wloc"⟩, .refl, M7⟩
    · rintro L4 H8 ⟨q, c2, e5, e6, ⟨q1, q2, q3, q4, q5⟩, F8, M8⟩
      cases c2 with
      | succ c2 => cases e5
      | zero =>
        obtain rfl : q = n := by lia
        have F9 := F7.trans F8
        walk_at "ww"
        refine hT2 _ _ _ ⟨F9 _ _ hr5 nr1, i + 1, c', rfl, by lia, ⟨q1, q2, q3, q4⟩, F9, M8.congr fun a ha b hb => ?_⟩
        have h1 := mem_jl.mp ha
        have h2 := mem_jl.mp hb
        unfold wst
        by_cases h3 : a < i + 1
        · rw [if_pos (by lia), if_pos (by lia)]
        · rw [if_neg (by lia), if_neg (by lia)]
    rintro x4 xs4 L4 H8 T3 hT3 ⟨q, c2, e5, e6, ⟨q1, q2, q3, q4, q5⟩, F8, M8⟩
    cases c2 with
    | zero => cases e5
    | succ c2 =>
    obtain ⟨rfl, rfl⟩ := up_eq e5
    have hq : (q : Int) ∈ jl n := mem_jl.mpr (by lia)
    have nxt : ∀ x ∈ jl n, ∀ y ∈ jl n, wst (bs (ndJ rt) n) mi i (q + 1) x y = if x = i ∧ y = q then (pw (bs (ndJ rt) n) mi i q || (pw (bs (ndJ rt) n) mi i mi && pw (bs (ndJ rt) n) mi mi q)) else wst (bs (ndJ rt) n) mi i q x y := by
      intro x hx y hy
      by_cases h1 : x = i ∧ y = q
      · obtain ⟨rfl, rfl⟩ := h1
        rw [if_pos ⟨rfl, rfl⟩]
        unfold wst
        rw [if_pos (by lia)]
        rfl
      · rw [if_neg h1]
        unfold wst
        by_cases h2 : x < i ∨ x = i ∧ y < q
        · rw [if_pos (by lia), if_pos h2]
        · rw [if_neg (by lia), if_neg h2]
    have hold : wst (bs (ndJ rt) n) mi i q i q = pw (bs (ndJ rt) n) mi i q := by
      unfold wst; rw [if_neg (by lia)]
    walk_at "ww"
    refine M8.sub1 hn5 hi fun v ev => ?_
    rw [ev]
    walk_at "ww"
    refine M8.sub2 hn5 hi hmi fun v ev => ?_
    rw [ev, wst_m1]
    refine P1.truthy_bool ?_
    cases b1 : pw (bs (ndJ rt) n) mi i mi with
    | false =>
      show SW _ _ _ _ _ _ _ _
      walk_at "ww"
      refine hT3 _ _ _ ⟨F8 _ _ hr7 nr2, q + 1, c2, rfl, by lia, ⟨fun x h1 h2 h3 h4 => (setL_ne h4).trans (q1 x h1 h2 h3 h4), trivial, by walk_at "wloc", by walk_at "wloc", by walk_at "wloc"⟩, F8, M8.congr fun x hx y hy => ?_⟩
      rw [nxt x hx y hy, b1, Bool.false_and, Bool.or_false]
      split
      · rename_i h; rw [h.1, h.2, hold]
      · rfl
    | true =>
      refine ite_t ?_
      walk_at "ww"
      refine M8.sub1 hn5 hmi fun v ev => ?_
      rw [ev]
      walk_at "ww"
      refine M8.sub2 hn5 hmi hq fun v ev => ?_
      rw [ev, wst_m2]
      refine P1.truthy_bool ?_
      cases b2 : pw (bs (ndJ rt) n) mi mi q with
      | false =>
        show SW _ _ _ _ _ _ _ _
        walk_at "ww"
        refine hT3 _ _ _ ⟨F8 _ _ hr7 nr2, q + 1, c2, rfl, by lia, ⟨fun x h1 h2 h3 h4 => (setL_ne h4).trans (q1 x h1 h2 h3 h4), trivial, by walk_at "wloc", by walk_at "wloc", by walk_at "wloc"⟩, F8, M8.congr fun x hx y hy => ?_⟩
        rw [nxt x hx y hy, b2, Bool.and_false, Bool.or_false]
        split
        · rename_i h; rw [h.1, h.2, hold]
        · rfl
      | true =>
        show SW _ _ _ _ _ _ _ _
        walk_at "ww"
        refine M8.sub1 hn5 hi fun v ev => ?_
        rw [ev]
        walk_at "ww"
        intro o' i' v' eo ei ev'
        cases er_ref eo
        obtain ⟨ti, rfl⟩ := er_int ei
        refine setList (M8.row i hi) (by lia) (by simp [len_jl]; lia) (by lia) ?_
        rw [ev']
        have M9 := M8.set hi hq
        have F9 : Fx (fun b => ∃ a ∈ jl n, ra a = b) H7 (upd H8 (ra i) (.list (((jl n).map fun y => Value.bool (wst (bs (ndJ rt) n) mi i q i y)).set (q : Int).toNat (.bool true)))) := F8.trans fun b o hb hn => by
          rw [upd_ne _ _ (fun e => hn ⟨i, hi, e.symm⟩)]; exact hb
        generalize upd H8 (ra i) (.list (((jl n).map fun y => Value.bool (wst (bs (ndJ rt) n) mi i q i y)).set (q : Int).toNat (.bool true))) = H9 at M9 F9 ⊢
        walk_at "ww"
        refine hT3 _ _ _ ⟨F9 _ _ hr7 nr2, q + 1, c2, rfl, by lia, ⟨fun x h1 h2 h3 h4 => (setL_ne h4).trans (q1 x h1 h2 h3 h4), trivial, by walk_at "wloc", by walk_at "wloc", by walk_at "wloc"⟩, F9, M9.congr fun x hx y hy => ?_⟩
        rw [nxt x hx y hy, b1, b2]
        simp
  rintro L2 H4 ⟨mi, c, e1, e2, ⟨m1, m2, m3⟩, F4, M4⟩
  cases c with
  | succ c => cases e1
  | zero =>
  obtain rfl : mi = n := by lia
  subst hn
  with_reducible refine seqQ.next ?_
  exact (h L2 H4 LD ra m1 m3 M4 fun b o hb => F4 b o (g13 b o (g1 b o hb)) (hF b o (g1 b o hb))).go
end

section
variable {C : Cx} {A : Around} {E : Value → Shared → Prop} {f : Fm} {L : Loc} {H : AH}
set_option maxHeartbeats 4000000 in
theorem lawE (X' : Ctx C) (FS0 : Frame f (fNames lawS)) {Q : Flow → Loc → AH → Prop}
    (h : ∀ (L' : Loc) (H' : AH) (oa va sa ol : Addr), (∀ x : Str, x ≠ "own" → x ≠ "values" → x ≠ "seen" → x ≠ "olds" → L' x = L x) → An4 (L' "own" = some (.ref oa)) (L' "values" = some (.ref va)) (L' "seen" = some (.ref sa)) (L' "olds" = some (.ref ol)) → An4 (H' oa = some (.list (ivs (six.map (· + 1))))) (H' va = some (.list (ivs (six.map fun _ => 0)))) (H' sa = some (.list (six.map fun _ => .none))) (H' ol = some (.list (six.map fun _ => .none))) → (∀ x ∈ [oa, va, sa, ol], H x = none) → [oa, va, sa, ol].Nodup → Ge H H' → SWp C A f ((fBody lawS).drop 13) L' H' Q) : SWp C A f ((fBody lawS).drop 9) L H Q := by
  refine ⟨?_⟩
  have FS : Frame f (_ :: _) := FS0
  have O' := X'.O
  have e : (fBody lawS).drop 9 = (_ :: _) := rfl
  rw [e]
  clear e
  walk_at "ww"
  refine ⟨show 6 ≤ sizeLine by decide, fun oa hoa => ?_⟩
  refine GW.cell ((FS.kinds _).trans rfl) (FS.cell _ rfl) ?_
  have o1 : upd H oa (.list (ivs (six.map (· + 1)))) oa = some (.list (ivs (six.map (· + 1)))) := upd_self ..
  have g1 : Ge H (upd H oa (.list (ivs (six.map (· + 1))))) := .upd hoa
  change seqQ C A nx f _ _ _ _ (upd H oa (.list (ivs (six.map (· + 1)))))
  generalize upd H oa (.list (ivs (six.map (· + 1)))) = H1 at o1 g1 ⊢
  walk_at "ww"
  refine ⟨show 6 ≤ sizeLine by decide, fun va hva => ?_⟩
  have o2 : upd H1 va (.list (ivs (six.map fun _ => 0))) va = some (.list (ivs (six.map fun _ => 0))) := upd_self ..
  have g2 : Ge H1 (upd H1 va (.list (ivs (six.map fun _ => 0)))) := .upd hva
  change GW C A nx f _ _ _ (upd H1 va (.list (ivs (six.map fun _ => 0)))) _
  generalize upd H1 va (.list (ivs (six.map fun _ => 0))) = H2 at o2 g2 ⊢
  walk_at "ww"
  refine ⟨show 6 ≤ sizeLine by decide, fun sa hsa => ?_⟩
  have o3 : upd H2 sa (.list (six.map fun _ => .none)) sa = some (.list (six.map fun _ => .none)) := upd_self ..
  have g3 : Ge H2 (upd H2 sa (.list (six.map fun _ => .none))) := .upd hsa
  change GW C A nx f _ _ _ (upd H2 sa (.list (six.map fun _ => .none))) _
  generalize upd H2 sa (.list (six.map fun _ => .none)) = H3 at o3 g3 ⊢
  walk_at "ww"
  refine ⟨show 6 ≤ sizeLine by decide, fun ol hol => ?_⟩
  refine GW.cell ((FS.kinds _).trans rfl) (FS.cell _ rfl) ?_
  have o4 : upd H3 ol (.list (six.map fun _ => .none)) ol = some (.list (six.map fun _ => .none)) := upd_self ..
  have g4 : Ge H3 (upd H3 ol (.list (six.map fun _ => .none))) := .upd hol
  change seqQ C A nx f _ _ _ _ (upd H3 ol (.list (six.map fun _ => .none)))
  generalize upd H3 ol (.list (six.map fun _ => .none)) = H4 at o4 g4 ⊢
  with_reducible refine seqQ.next ?_
  have back : ∀ {H H' : AH} {b : Addr}, Ge H H' → H' b = none → H b = none := fun {H H' b} g hb => by
    cases e : H b with
    | none => rfl
    | some o => rw [g _ _ e] at hb; cases hb
  refine (h _ H4 oa va sa ol (fun x h1 h2 h3 h4 => ?_) ⟨by walk_at "wloc", by walk_at "wloc", by walk_at "wloc", by walk_at "wloc"⟩ ⟨g4 _ _ (g3 _ _ (g2 _ _ o1)), g4 _ _ (g3 _ _ o2), g4 _ _ o3, o4⟩ ?_ ?_ (g1.trans (g2.trans (g3.trans g4)))).go
  · rw [setL_ne h4, setL_ne h3, setL_ne h2, setL_ne h1]
  · intro x hx
    simp only [List.mem_cons, List.not_mem_nil, or_false] at hx
    rcases hx with rfl | rfl | rfl | rfl
    · exact hoa
    · exact back g1 hva
    · exact back (g1.trans g2) hsa
    · exact back (g1.trans (g2.trans g3)) hol
  · have n1 := ne_of_none o1 hva
    have n2 := ne_of_none (g2 _ _ o1) hsa
    have n3 := ne_of_none (g3 _ _ (g2 _ _ o1)) hol
    have n4 := ne_of_none o2 hsa
    have n5 := ne_of_none (g3 _ _ o2) hol
    have n6 := ne_of_none o3 hol
    simp [n1, n2, n3, n4, n5, n6]
end

noncomputable def lpS : Stmt := nth (fBody lawS) 13
noncomputable def wantW (ld : Int → Int → Bool) (gl : Int) : List Int := six.reverse.filter fun t => t == gl || ld t gl
section
variable {C : Cx} {A : Around} {E : Value → Shared → Prop} {f : Fm} {L : Loc} {H : AH}
set_option maxHeartbeats 4000000 in
theorem lawF (X' : Ctx C) {k : Nat} (hA' : AIn C A k) (FS0 : Frame f (fNames lawS)) {oa LD : Addr} {ra : Int → Addr} {o : Int → Int} {ld : Int → Int → Bool} {x : Int} (ho : H oa = some (.list (ivs (six.map o)))) (M : MX H LD 6 ra ld) (hM : LD ≠ oa ∧ ∀ a ∈ jl 6, ra a ≠ oa) (l1 : L "own" = some (.ref oa)) (l2 : L "leads" = some (.ref LD)) (l3 : L "x" = some (.int x 0)) {Q : Flow → Loc → AH → Prop}
    (h : ∀ (L' : Loc) (H' : AH) (wa : Addr) (gl : Int) (o' : Int → Int), (∀ x : Str, x ≠ "goal" → x ≠ "wanted" → L' x = L x) → L' "wanted" = some (.ref wa) → 0 ≤ gl → gl < 6 → H' wa = some (.list (ivs (wantW ld gl))) → H wa = none → H' oa = some (.list (ivs (six.map o'))) → (∀ b y, H b = some y → b ≠ oa → H' b = some y) → SWp C A f ((forBody lpS).drop 3) L' H' Q) : SWp C A f (forBody lpS) L H Q := by
  refine ⟨?_⟩
  have FS : Frame f (_ :: _) := FS0
  have O' := X'.O
  have e : forBody lpS = (_ :: _) := rfl
  rw [e]
  clear e
  have fm : ∀ z : Int, 0 ≤ Int.fmod z 6 ∧ Int.fmod z 6 < 6 := fun z => by
    rw [Int.fmod_eq_emod_of_nonneg _ (by decide)]
    exact ⟨Int.emod_nonneg _ (by decide), Int.emod_lt_of_pos _ (by decide)⟩
  walk_at "ww"
  refine Pe2.mod (by decide) ?_
  refine GW.cell ((FS.kinds _).trans rfl) (FS.cell _ rfl) ?_
  obtain ⟨g0, g6⟩ := fm x
  generalize Int.fmod x 6 = gl at g0 g6 ⊢
  walk_at "ww"
  refine XW.augSub ?_
  walk_at "ww"
  refine Pe2.div (by decide) (PyProof.noPylong_small (by decide)) ?_
  walk_at "ww"
  refine Pe2.mod (by decide) ?_
  obtain ⟨j0, j6⟩ := fm (Int.fdiv x 6)
  generalize Int.fmod (Int.fdiv x 6) 6 = j at j0 j6 ⊢
  refine P2.getList ho j0 (ivs_get (six_get o j0 j6)) (by omega) fun v ev => ?_
  rw [ev]
  walk_at "ww"
  refine Pe2.div (by decide) (PyProof.noPylong_small (by decide)) ?_
  generalize Int.fdiv x 36 = d
  refine P2.iadd fun t => ?_
  intro o' i' eo ei
  cases er_ref eo
  obtain ⟨ti, rfl⟩ := er_int ei
  refine setList ho j0 (by rw [ivs_len, List.length_map, six_len]; omega) (by omega) ?_
  rw [show er (Value.int (o j + d) t) = .int (o j + d) 0 from rfl, ivs_set, six_set _ _ j0 j6]
  have ho1 := upd_self H oa (.list (ivs (six.map (fset o j (o j + d)))))
  have k1 : ∀ b y, H b = some y → b ≠ oa → upd H oa (.list (ivs (six.map (fset o j (o j + d))))) b = some y := fun b y hb hn => (upd_ne _ _ hn).trans hb
  have k2 : ∀ b, upd H oa (.list (ivs (six.map (fset o j (o j + d))))) b = none → H b = none := fun b hb => by
    by_cases e : b = oa
    · subst e; rw [ho1] at hb; cases hb
    · rwa [upd_ne _ _ e] at hb
  have M1 : MX (upd H oa (.list (ivs (six.map (fset o j (o j + d)))))) LD 6 ra ld := ⟨k1 _ _ M.top hM.1, fun a ha => k1 _ _ (M.row a ha) (hM.2 a ha), M.inj, M.off⟩
  generalize upd H oa (.list (ivs (six.map (fset o j (o j + d))))) = H1 at ho1 k1 k2 M1 ⊢
  generalize fset o j (o j + d) = o2 at ho1 ⊢
  walk_at "ww"
  refine XW.setCompJ FS.c rfl rfl (fun _ _ => rfl) rfl (swaps_comp FS.c rfl) ?_
  walk_at "ww"
  refine P1.neg fun t => ?_
  walk_at "ww"
  refine P1.neg fun t => ?_
  walk_at "ww"
  refine ⟨KeepOk.type, CallP.range3 (by decide) (PyProof.noPylong_small (by decide)) fun rr hrr => ?_⟩
  have hrd : rangeItems 5 (-1) (-1) = ivs six.reverse := range_dn 6
  have g2 : Ge H1 (upd H1 rr (.range 5 (-1) (-1))) := .upd hrr
  have hr2 : upd H1 rr (.range 5 (-1) (-1)) rr = some (.range 5 (-1) (-1)) := upd_self ..
  change CompJ _ _ _ _ _ _ _ _ (upd H1 rr (.range 5 (-1) (-1))) _ _
  generalize upd H1 rr (.range 5 (-1) (-1)) = H2 at g2 hr2 ⊢
  refine CompJ.vals six.reverse (fun a => .int a 0) (fun t => t == gl || ld t gl) (fun a => .int a 0) (fun H => H rr = some (.range 5 (-1) (-1))) hr2 (show IterP C A (.ref rr) (ivs six.reverse) _ from hrd ▸ IterP.range hA'.hd (by decide)) (by decide) (fun H' g => g _ _ hr2) ?_ ?_
  · intro f' a L2 H3 ha FC g23 hl hu
    have has := mem_six.mp (List.mem_reverse.mp ha)
    have hg2 : L2 "goal" = some (.int gl 0) := (hl "goal" rfl).trans (by walk_at "wloc")
    have hd2 : L2 "leads" = some (.ref LD) := (hl "leads" rfl).trans (by walk_at "wloc")
    have M3 := (M1.ge g2).ge g23
    refine IfsW.one ?_
    refine BW.or ?_
    walk_at "ww"
    refine P2.eq ?_
    refine ⟨_, rfl, ?_⟩
    cases e : (a == gl) with
    | true =>
      refine ite_t ?_
      refine ite_t ?_
      walk_at "ww"
      exact ⟨rfl, .refl, rfl, rfl⟩
    | false =>
      refine ite_f ?_
      refine BW.orLast ?_
      walk_at "ww"
      refine M3.sub1 (by decide) (mem_jl.mpr has) fun v ev => ?_
      rw [ev]
      walk_at "ww"
      refine M3.sub2 (by decide) (mem_jl.mpr has) (mem_jl.mpr ⟨g0, g6⟩) fun v ev => ?_
      rw [ev]
      refine P1.truthy_bool ?_
      cases e2 : ld a gl with
      | true =>
        refine ite_t ?_
        walk_at "ww"
        exact ⟨rfl, .refl, rfl, rfl⟩
      | false =>
        refine ite_f ?_
        exact ⟨rfl, .refl, rfl⟩
  intro wa H3 hwa g23 hw3
  have g13 := g2.trans g23
  have hwn : H wa = none := k2 _ (by
    cases e : H1 wa with
    | none => rfl
    | some y => rw [g2 _ _ e] at hwa; cases hwa)
  with_reducible refine seqQ.next ?_
  refine (h _ H3 wa gl o2 (fun x h1 h2 => ?_) (by walk_at "wloc") g0 g6 hw3 hwn (g13 _ _ ho1) fun b y hb hn => g13 _ _ (k1 b y hb hn)).go
  rw [setL_ne h2, setL_ne h1]
end

theorem k146 {C : Cx} {H : AH} (X : Ctx C) : KeepOk C (.ref 146) H := KeepOk.known X.O (by walk_at "kk") ⟨_, rfl⟩
section
variable {C : Cx} {A : Around} {E : Value → Shared → Prop} {f : Fm} {L : Loc} {H : AH}
theorem Built.ge {va sa : Addr} {OK : Addr → Prop} {rc : Int → List (Int × Int)} {ld : Int → Int → Bool} {o : Int → Int} {W : List Int} {vs0 : Int → Int} {ss0 : Int → Option (List Int)} {r : Addr} {H1 H2 : AH} {mt : List (Addr × Int × Int)} {vs : Int → Int} {sp : Int → Option (Addr × List Int)} (B : Built H va sa OK rc ld o W vs0 ss0 r H1 mt vs sp) (g : Ge H1 H2) : Built H va sa OK rc ld o W vs0 ss0 r H2 mt vs sp :=
  ⟨B.r0, g _ _ B.hr, fun m hm => g _ _ (B.tup m hm), B.srt, g _ _ B.hv, g _ _ B.hs, fun t p xs e => ⟨g _ _ (B.hp t p xs e).1, (B.hp t p xs e).2, (B.hp t p xs e).3, (B.hp t p xs e).4⟩, fun b x h1 h2 h3 => g _ _ (B.st b x h1 h2 h3), B.ex⟩
set_option maxHeartbeats 4000000 in
theorem lawG (X' : Ctx C) {k0 : Nat} (hA' : AIn C A (k0 + 10)) (FS0 : Frame f (fNames lawS)) {wa ra oa va sa : Addr} {rl : Int → Addr} {rt : Int → List (Addr × Int × Int)} {W : List Int} {w0 : Int} {o : Int → Int} {ld : Int → Int → Bool} {vs0 : Int → Int} {sp0 : Int → Option (Addr × List Int)} {OK : Addr → Prop}
    (hw : H wa = some (.list (ivs W))) (ho : H oa = some (.list (ivs (six.map o)))) (R : RcAt H ra rl rt) (hv : H va = some (.list (ivs (six.map vs0)))) (hs : H sa = some (.list (six.map fun t => sv (sp0 t)))) (hp : ∀ t p xs, sp0 t = some (p, xs) → An4 (H p = some (.list (ivs xs))) (p ≠ va) (p ≠ sa) (OK p)) (nvs : va ≠ sa) (nn : ∀ x ∈ [wa, oa, ra], x ≠ va ∧ x ≠ sa) (nl : ∀ t ∈ six, rl t ≠ va ∧ rl t ≠ sa) (hok : ∀ b, H b = none → OK b)
    (Bo : BuildOk (rcOf rt) ld W vs0 fun j => (sp0 j).map (·.2)) (h0 : W[0]? = some w0)
    (l1 : L "wanted" = some (.ref wa)) (l2 : L "recipes" = some (.ref ra)) (l3 : L "own" = some (.ref oa)) (l4 : L "values" = some (.ref va)) (l5 : L "seen" = some (.ref sa)) {Q : Flow → Loc → AH → Prop}
    (h : ∀ (L' : Loc) (H' : AH) (r hd : Addr) (ep : Nat) (mt : List (Addr × Int × Int)) (vs : Int → Int) (sp : Int → Option (Addr × List Int)), (∀ x : Str, x ≠ "made" → x ≠ "hours" → L' x = L x) → L' "made" = some (.ref r) → L' "hours" = some (.ref hd) → Built H va sa OK (rcOf rt) ld o W vs0 (fun j => (sp0 j).map (·.2)) r H' mt vs sp → H' hd = some (.dict [] ep) → H hd = none → SWp C A f ((forBody lpS).drop 5) L' H' Q) : SWp C A f ((forBody lpS).drop 3) L H Q := by
  refine ⟨?_⟩
  have FS : Frame f (_ :: _) := FS0
  have O' := X'.O
  have e : (forBody lpS).drop 3 = (_ :: _) := rfl
  rw [e]
  clear e
  walk_at "ww"
  refine ⟨k146 X', buildOk X' hA' hw ho R hv hs hp nvs nn nl hok Bo h0 fun H1 r mt vs sp B => ?_⟩
  walk_at "ww"
  intro hd hhd
  refine GW.cell ((FS.kinds _).trans rfl) (FS.cell _ rfl) ?_
  with_reducible refine seqQ.next ?_
  refine (h _ _ r hd 0 mt vs sp (fun x h1 h2 => (setL_ne h2).trans (setL_ne h1)) (by walk_at "wloc") (by walk_at "wloc") (B.ge (.upd hhd)) (upd_self ..) ?_).go
  cases e : H hd with
  | none => rfl
  | some y =>
    by_cases e1 : hd = va
    · rw [e1, B.hv] at hhd; cases hhd
    · by_cases e2 : hd = sa
      · rw [e2, B.hs] at hhd; cases hhd
      · rw [B.st _ _ e e1 e2] at hhd; cases hhd
end

section
variable {C : Cx} {A : Around} {E : Value → Shared → Prop} {f : Fm} {L : Loc} {H : AH}
theorem CallP.maxInts {a : Addr} {ns : List Int} {Q : Value → AH → Prop} (hh : A.handled = none) (ha : H a = some (.list (ivs ns))) (hne : 0 < ns.length) (h : ∀ M, M ∈ ns → (∀ a ∈ ns, a ≤ M) → Q (.int M 0) H) : CallP C A E (.builtin "max") [.ref a] H Q := by
  refine CallP.of1 fun s R => ?_
  obtain ⟨vs, n, e, q⟩ := R.rep a _ ha
  have hi := ints_are q
  obtain ⟨xs, hx⟩ := hi.allInts.items
  have hx' : vs = intItems xs := by rw [← hx]
  have hl' : s.heap.IsList a (intItems xs) := hx' ▸ ⟨_, e, rfl, n, rfl⟩
  have e1 : ns = xs.toList.map (·.1) := by
    rw [← nums_intItems, ← hx']
    exact (show numsOf vs.toList = ns from hi.numsOf).symm
  have hsz : 0 < xs.size := by
    have h3 := hne; rw [e1, List.length_map, Array.length_toList] at h3; exact h3
  refine max_intList hh hl' hsz fun v h' tk hv hk => ?_
  obtain ⟨t, rfl⟩ := intItems_at hv
  obtain ⟨h1, h2⟩ := argBest_gt (numAt xs) (xs.size - 1)
  refine ⟨H, R.onlys (tk := tk) (fp := []) (fun b o _ e => hk b o e) (fun a ha => by simp at ha), .mk fun a o e q _ => ⟨hk a o e, q⟩, ⟨rfl, rfl⟩, h _ ?_ fun a ha => ?_⟩
  · rw [e1, numAt_eq]; exact getD_mem (by rw [List.length_map, Array.length_toList]; omega)
  · rw [e1] at ha
    obtain ⟨j, hj, rfl⟩ := mem_getD ha
    rw [List.length_map, Array.length_toList] at hj
    rw [← numAt_eq]; exact h2 j (by omega)
end

noncomputable def thB : List Stmt := forBody (nth (forBody lpS) 5)
noncomputable def ov : Option (Addr × (Int → Int)) → Value
  | none => .none
  | some p => .ref p.1
noncomputable def mst (rc : Int → List (Int × Int)) (o : Int → Int) (t : Int) : Option (Addr × (Int → Int)) → Bool
  | none => true
  | some p => decide (parts rc p.2 t ≠ parts rc o t)
theorem sum_abs {B : Nat} : ∀ {l : List Int}, (∀ x ∈ l, x.natAbs ≤ B) → l.sum.natAbs ≤ l.length * B
  | [], _ => by simp
  | x :: l, h => by
    have h1 := sum_abs fun y hy => h y (List.mem_cons_of_mem _ hy)
    have h2 := h x List.mem_cons_self
    rw [List.sum_cons, List.length_cons, Nat.succ_mul]
    have := Int.natAbs_add_le x l.sum
    lia
theorem wy_le {rt : Int → List (Addr × Int × Int)} (R : RcOk (rcOf rt)) {s : Int} (hs : s ∈ six) : ∀ (n : Nat) (t : Int), 0 ≤ t → t < 6 → t < n → (wy rt s t).natAbs ≤ 11 ^ n
  | 0, t, h0, _, h => by lia
  | n + 1, t, h0, h6, h => by
    obtain ⟨s0, s6⟩ := mem_six.mp hs
    rw [(wy_ok R).eq s t s0 s6 h0 h6]
    have h1 : (((rcOf rt t).map fun p => p.2 * wy rt s p.1)).sum.natAbs ≤ 10 * 11 ^ n := by
      refine Nat.le_trans (sum_abs (B := 11 ^ n) fun x hx => ?_) ?_
      · obtain ⟨p, hp, rfl⟩ := List.mem_map.mp hx
        have hl := R.lt t h0 h6 p hp
        have := wy_le R hs n p.1 hl.1 (by lia) (by lia)
        rcases R.sg t h0 h6 p hp with e | e <;> rw [e] <;> simpa using this
      · rw [List.length_map]
        exact Nat.mul_le_mul_right _ (R.len t h0 h6)
    have h2 : 1 ≤ 11 ^ n := Nat.one_le_pow _ _ (by decide)
    have h3 : (if t = s then (1 : Int) else 0).natAbs ≤ 1 := by split <;> decide
    have := Int.natAbs_add_le (if t = s then (1 : Int) else 0) (((rcOf rt t).map fun p => p.2 * wy rt s p.1)).sum
    rw [Nat.pow_succ]
    lia
section
variable {C : Cx} {A : Around} {E : Value → Shared → Prop} {f : Fm} {L : Loc} {H : AH}
theorem XW.setCompU {z : Str} {zp sp : Pos} {elt it : Expr} {x y : Str} {xp yp tp p : Pos} {kk : Nat} {scope : Scope} {outer : List (Str × NameKind)} {Q : Flow → Loc → AH → Prop} (hh : A.handled = none) (F : FrameC f outer) (hsc : scopeOk scope outer = true) (hx : ownK (scope.names.lookup x) = true) (hy : scope.names.lookup y = some .local) (hxy : x ≠ y)
    (hs : ∀ env v, foldedSetIterable it env v = pure v) (hz : outer.lookup z = some .local) (hsw : swapsWith (.ListComp elt [⟨.Tuple [.Name x xp, .Name y yp] kk tp, it, [], 0⟩] scope p) (some (.Name z zp)) sp.line f.env = pure true)
    (h : EW C A E f it L H fun xv L1 H1 => ∃ (ps : List (Addr × Value × Value)) (out : Addr × Value × Value → Value) (D : AH → Prop), An7 (D H1) (IterP C A xv (ps.map fun p => .ref p.1) D) (∀ H', Ge H1 H' → D H') (ps.length ≤ 1000) (∀ p ∈ ps, H1 p.1 = some (.tuple [p.2.1, p.2.2]))
      (∀ f' p L2 H2, p ∈ ps → FrameC f' (relN scope.names outer) → Ge H1 H2 → (∀ y, scope.names.lookup y = some .free → L2 y = L1 y) → L2 x = some p.2.1 → L2 y = some p.2.2 → EW C A nx f' elt L2 H2 (fun v L4 H4 => An3 (L4 = L2) (Ge H2 H4) (v = out p)))
      (∀ r H', Ge H1 H' → H1 r = none → H' r = some (.list (ps.map out)) → Q .next (setL L1 z (.ref r)) H')) :
    XW C A E f (.Assign [.Name z zp] (.ListComp elt [⟨.Tuple [.Name x xp, .Name y yp] kk tp, it, [], 0⟩] scope p) sp) L H Q := by
  refine XW.setComp (scopeOk.ok F hsc) (fun K' g' hg => ?_) (hs _) ((F.kinds z).trans hz) F.loc (TW.mono h fun xv L1 H1 q => lcompLoop hh F hsc hx hy hxy q) hsw
  cases List.mem_singleton.mp hg
  exact ⟨rfl, hs _⟩
set_option maxHeartbeats 4000000 in
theorem lawH (X' : Ctx C) {k : Nat} (hA' : AIn C A k) (FS0 : Frame f (fNames lawS)) {oa ol wb rc : Addr} {rl wl : Int → Addr} {rt : Int → List (Addr × Int × Int)} {o : Int → Int} {op : Int → Option (Addr × (Int → Int))} {t : Int} (ht : t ∈ six)
    (ho : H oa = some (.list (ivs (six.map o)))) (hol : H ol = some (.list (six.map fun t => ov (op t)))) (hop : ∀ p u, op t = some (p, u) → H p = some (.list (ivs (six.map u)))) (R : RcAt H rc rl rt) (Ro : RcOk (rcOf rt)) (hwb : H wb = some (.list (six.map fun s => .ref (wl s)))) (hwl : ∀ s ∈ six, H (wl s) = some (.list (ivs (six.map (wy rt s)))))
    (l1 : L "own" = some (.ref oa)) (l2 : L "olds" = some (.ref ol)) (l3 : L "ways" = some (.ref wb)) (l4 : L "recipes" = some (.ref rc)) (l5 : L "thing" = some (.int t 0)) {Q : Flow → Loc → AH → Prop}
    (h : ∀ (L' : Loc) (H' : AH), (∀ x : Str, x ≠ "must" → x ≠ "moved" → x ≠ "turns" → L' x = L x) → L' "must" = some (.bool (mst (rcOf rt) o t (op t))) → Ge H H' → SWp C A f (thB.drop 2) L' H' Q) : SWp C A f thB L H Q := by
  refine ⟨?_⟩
  have FS : Frame f (_ :: _) := FS0
  have O' := X'.O
  obtain ⟨t0, t6⟩ := mem_six.mp ht
  have e : thB = (_ :: _) := rfl
  rw [e]
  clear e
  walk_at "ww"
  refine Pe2.subList hol t0 (six_get _ t0 t6) (by lia) ?_
  walk_at "ww"
  refine P2.isNone ?_
  cases hopt : op t with
  | none =>
    walk_at "ww"
    refine P1.truthy_bool ?_
    refine ite_f ?_
    refine SW.nil ?_
    with_reducible refine seqQ.next ?_
    refine (h _ H (fun x h1 _ _ => setL_ne h1) ?_ .refl).go
    rw [hopt]; exact setL_same
  | some q =>
    obtain ⟨p, u⟩ := q
    walk_at "ww"
    refine P1.truthy_bool ?_
    refine ite_t ?_
    have hpu := hop _ _ hopt
    refine SW.cons ?_
    refine XW.set ?_ (swaps_comp FS.c rfl) rfl rfl
    refine EW.lcompJ FS.c rfl rfl (fun _ _ => rfl) ?_
    walk_at "ww"
    refine ⟨KeepOk.type, CallP.range6 (n := 6) rfl fun rr hrr => ?_⟩
    have g1 : Ge H (upd H rr (.range 0 (6 : Nat) 1)) := .upd hrr
    have hr1 := upd_self H rr (.range 0 (6 : Nat) 1)
    generalize upd H rr (.range 0 (6 : Nat) 1) = H1 at g1 hr1 ⊢
    refine CompJ.vals six (fun a => .int a 0) (fun _ => true) (fun s => .int (o s - u s) 0) (fun H => H rr = some (.range 0 (6 : Nat) 1)) hr1 (iter_up hA'.hd (by decide)) (by decide) (fun H' g => g _ _ hr1) ?_ ?_
    · intro f' a L2 H2 ha FC g12 hlf hu
      obtain ⟨a0, a6⟩ := mem_six.mp ha
      have q1 : L2 "own" = some (.ref oa) := (hlf "own" rfl).trans (by walk_at "wloc")
      have q2 : L2 "olds" = some (.ref ol) := (hlf "olds" rfl).trans (by walk_at "wloc")
      have q3 : L2 "thing" = some (.int t 0) := (hlf "thing" rfl).trans (by walk_at "wloc")
      have g := g1.trans g12
      refine ifsNil ?_
      walk_at "ww"
      refine Pe2.subList (g _ _ ho) a0 (ivs_get (six_get _ a0 a6)) (by lia) ?_
      walk_at "ww"
      refine Pe2.subList (g _ _ hol) t0 (six_get _ t0 t6) (by lia) ?_
      rw [hopt]
      walk_at "ww"
      refine Pe2.subList (g _ _ hpu) a0 (ivs_get (six_get _ a0 a6)) (by lia) ?_
      refine Pe2.sub ?_
      exact ⟨rfl, .refl, rfl, rfl⟩
    intro mv H2 hmv g12 hmv2
    rw [List.filter_eq_self.mpr (by simp)] at hmv2
    have hmv2 : H2 mv = some (.list (ivs (six.map fun s => o s - u s))) := by
      rw [hmv2]; simp [ivs]
    refine GW.cell ((FS.kinds _).trans rfl) (FS.cell _ rfl) ?_
    have g2 := g1.trans g12
    clear hmv g12 g1 hr1 hrr
    have R2 := R.ge g2
    have hwb2 := g2 _ _ hwb
    walk_at "ww"
    refine XW.setCompU hA'.hd FS.c rfl rfl rfl (by decide) (fun _ _ => rfl) rfl (swaps_comp FS.c rfl) ?_
    walk_at "ww"
    refine Pe2.subList R2.top t0 (six_get _ t0 t6) (by lia) ?_
    refine ⟨(rt t).map fun p => (p.1, Value.int p.2.1 0, Value.int p.2.2 0), fun q => match q.2 with | (.int b _, _) => .int (six.map fun s => (o s - u s) * wy rt s b).sum 0 | _ => .none, fun H => H (rl t) = some (.list ((rt t).map fun p => .ref p.1)), R2.each t ht, ?_, fun H' g => g _ _ (R2.each t ht), by rw [List.length_map]; exact Nat.le_trans (R2.len t ht) (by decide), ?_, ?_, ?_⟩
    · rw [List.map_map]
      exact IterP.list hA'.hd
    · intro q hq
      obtain ⟨p, hp, rfl⟩ := List.mem_map.mp hq
      exact R2.tup t ht p hp
    · intro f2 q L3 H3 hq FC2 g23 hl2 hx hy
      obtain ⟨pp, hp, rfl⟩ := List.mem_map.mp hq
      have hpr : pp.2 ∈ rcOf rt t := List.mem_map.mpr ⟨pp, hp, rfl⟩
      have hlt := Ro.lt t t0 t6 _ hpr
      have q1 : L3 "moved" = some (.ref mv) := (hl2 "moved" rfl).trans (by walk_at "wloc")
      have q2 : L3 "ways" = some (.ref wb) := (hl2 "ways" rfl).trans (by walk_at "wloc")
      walk_at "ww"
      refine EW.lcompJ FC2 rfl rfl (fun _ _ => rfl) ?_
      walk_at "ww"
      refine ⟨KeepOk.type, CallP.range6 (n := 6) rfl fun r2 hr2 => ?_⟩
      have g4 : Ge H3 (upd H3 r2 (.range 0 (6 : Nat) 1)) := .upd hr2
      have hr4 := upd_self H3 r2 (.range 0 (6 : Nat) 1)
      generalize upd H3 r2 (.range 0 (6 : Nat) 1) = H4 at g4 hr4 ⊢
      refine CompJ.vals six (fun a => .int a 0) (fun _ => true) (fun s => .int ((o s - u s) * wy rt s pp.2.1) 0) (fun H => H r2 = some (.range 0 (6 : Nat) 1)) hr4 (iter_up hA'.hd (by decide)) (by decide) (fun H' g => g _ _ hr4) ?_ ?_
      · intro f4 a L5 H5 ha FC4 g45 hl5 hu
        obtain ⟨a0, a6⟩ := mem_six.mp ha
        have z1 : L5 "moved" = some (.ref mv) := (hl5 "moved" rfl).trans q1
        have z2 : L5 "ways" = some (.ref wb) := (hl5 "ways" rfl).trans q2
        have z3 : L5 "ahead" = some (.int pp.2.1 0) := (hl5 "ahead" rfl).trans hx
        have g := g23.trans (g4.trans g45)
        refine ifsNil ?_
        walk_at "ww"
        refine Pe2.subList (g _ _ hmv2) a0 (ivs_get (six_get _ a0 a6)) (by lia) ?_
        walk_at "ww"
        refine Pe2.subList (g _ _ hwb2) a0 (six_get _ a0 a6) (by lia) ?_
        walk_at "ww"
        refine Pe2.subList (g _ _ (g2 _ _ (hwl a ha))) hlt.1 (ivs_get (six_get _ hlt.1 (by lia))) (by lia) ?_
        refine Pe2.mul ?_ ?_
        · refine IntMulOk.of_right (bits64 ?_)
          exact Nat.lt_of_le_of_lt (wy_le Ro ha 6 pp.2.1 hlt.1 (by lia) (by lia)) (by decide)
        exact ⟨rfl, .refl, rfl, rfl⟩
      intro l5 H5 hl5 g45 hl6
      rw [List.filter_eq_self.mpr (by simp)] at hl6
      have hl7 : H5 l5 = some (.list (ivs (six.map fun s => (o s - u s) * wy rt s pp.2.1))) := by
        rw [hl6]; simp [ivs]
      walk_at "ww"
      refine ⟨KeepOk.builtin, CallP.sumInts hA'.hd hl7 ?_⟩
      exact ⟨rfl, g4.trans g45, rfl⟩
    intro tn H3 g23 htn htn3
    have htn4 : H3 tn = some (.list (ivs ((rcOf rt t).map fun p => (six.map fun s => (o s - u s) * wy rt s p.1).sum))) := by
      rw [htn3, List.map_map]
      simp [ivs, rcOf, Function.comp_def]
    have hmv3 := g23 _ _ hmv2
    walk_at "ww"
    refine Pe2.subList hmv3 t0 (ivs_get (six_get _ t0 t6)) (by lia) ?_
    walk_at "ww"
    refine P2.ne ?_
    refine P1.truthy_bool ?_
    have same := parts_same Ro (wy_ok Ro) o u t0 t6
    have fin : ∀ (b : Bool) (tl : Loc) (H' : AH), b = mst (rcOf rt) o t (op t) → (∀ x : Str, x ≠ "must" → x ≠ "moved" → x ≠ "turns" → tl x = L x) → Ge H3 H' → SWp C A f (thB.drop 2) (setL tl "must" (.bool b)) H' Q := fun b tl H' e hl g => h _ H' (fun x h1 h2 h3 => (setL_ne h1).trans (hl x h1 h2 h3)) (e ▸ setL_same) ((g2.trans g23).trans g)
    have hl0 : ∀ x : Str, x ≠ "must" → x ≠ "moved" → x ≠ "turns" → setL (setL (setL L "must" (.bool (ov (some (p, u)) == .none))) "moved" (.ref mv)) "turns" (.ref tn) x = L x := fun x h1 h2 h3 => (setL_ne h3).trans ((setL_ne h2).trans (setL_ne h1))
    cases e1 : (o t - u t != 0) with
    | true =>
      refine ite_t ?_
      refine GW.local ((FS.kinds _).trans rfl) FS.loc ?_
      refine SW.nil ?_
      with_reducible refine seqQ.next ?_
      refine (fin true _ _ ?_ hl0 .refl).go
      rw [hopt]
      symm
      rw [mst, decide_eq_true_iff]
      intro e
      have := (same.mp e).1
      rw [this] at e1; cases e1
    | false =>
      refine ite_f ?_
      walk_at "ww"
      have hd0 : o t - u t = 0 := by
        have := bne_eq_false_iff_eq.mp e1; exact this
      refine EW.lcompJ FS.c rfl rfl (fun _ _ => rfl) ?_
      walk_at "ww"
      generalize hSS : ((rcOf rt t).map fun p => (six.map fun s => (o s - u s) * wy rt s p.1).sum) = SS at htn4
      have hSl : SS.length ≤ 1000 := by
        rw [← hSS, List.length_map]
        unfold rcOf; rw [List.length_map]; exact Nat.le_trans (R2.len t ht) (by decide)
      refine CompJ.vals SS (fun a => .int a 0) (fun a => a != 0) (fun a => .int a 0) (fun H => H tn = some (.list (ivs SS))) htn4 (IterP.list hA'.hd) hSl (fun H' g => g _ _ htn4) ?_ ?_
      · intro f4 a L5 H5 ha FC4 g45 hl5 hu
        refine IfsW.one ?_
        walk_at "ww"
        refine P2.ne ?_
        refine ⟨_, rfl, ?_⟩
        cases ea : (a != 0) with
        | true =>
          refine ite_t ?_
          walk_at "ww"
          exact ⟨rfl, .refl, rfl, rfl⟩
        | false =>
          refine ite_f ?_
          exact ⟨rfl, .refl, rfl⟩
      intro ll H4 hll g34 hll4
      walk_at "ww"
      refine ⟨Nat.zero_le _, fun nn hnn => ?_⟩
      have g5 : Ge H4 (upd H4 nn (.list [])) := .upd hnn
      have hnn5 := upd_self H4 nn (.list [])
      generalize upd H4 nn (.list []) = H5 at g5 hnn5 ⊢
      refine P2.neNil hA'.room (g5 _ _ hll4) hnn5 ?_
      refine GW.local ((FS.kinds _).trans rfl) FS.loc ?_
      with_reducible refine seqQ.next ?_
      refine SW.nil ?_
      with_reducible refine seqQ.next ?_
      refine (fin _ _ _ ?_ hl0 (g34.trans g5)).go
      rw [hopt, mst]
      rw [Bool.eq_iff_iff, decide_eq_true_iff]
      show _ ↔ ¬ (parts (rcOf rt) u t = parts (rcOf rt) o t)
      rw [same, Bool.not_eq_true', List.isEmpty_eq_false_iff]
      constructor
      · rintro hne ⟨_, hz⟩
        refine hne ?_
        rw [List.map_eq_nil_iff, List.filter_eq_nil_iff]
        intro a ha
        rw [← hSS] at ha
        obtain ⟨q, hq, rfl⟩ := List.mem_map.mp ha
        rw [hz q hq]; decide
      · intro hn hnil
        rw [List.map_eq_nil_iff, List.filter_eq_nil_iff] at hnil
        refine hn ⟨hd0, fun q hq => ?_⟩
        have := hnil _ (hSS ▸ List.mem_map.mpr ⟨q, hq, rfl⟩)
        simpa using this
end

theorem valueAt_map {g : Int → Value} {a : Int} : ∀ {dn : List Int}, a ∈ dn → valueAt (dn.map fun a => (a, g a)) a = some (g a)
  | [], h => by cases h
  | b :: dn, h => by
    by_cases e : b = a
    · subst e; simp [valueAt]
    · have h : a ∈ dn := (List.mem_cons.mp h).resolve_left fun h => e h.symm
      have := valueAt_map (g := g) h
      simp only [List.map_cons, valueAt] at this ⊢
      rw [List.find?_cons_of_neg (by simpa using e)]
      exact this
section
variable {C : Cx} {A : Around} {E : Value → Shared → Prop} {f : Fm} {L : Loc} {H : AH}
set_option maxHeartbeats 4000000 in
theorem lawI (X' : Ctx C) {k : Nat} (hA' : AIn C A k) (FS0 : Frame f (fNames lawS)) {oa ol LD hd : Addr} {ra : Int → Addr} {o : Int → Int} {ld : Int → Int → Bool} {op : Int → Option (Addr × (Int → Int))} {t : Int} {ms : Bool} {dn : List Int} {hf : Int → Int} {ep : Nat} (ht : t ∈ six) (hdn : ∀ a ∈ dn, a ∈ six) (htn : t ∉ dn) (hdl : dn.length ≤ 6)
    (ho : H oa = some (.list (ivs (six.map o)))) (hol : H ol = some (.list (six.map fun t => ov (op t)))) (M : MX H LD 6 ra ld) (hh : H hd = some (.dict (dn.map fun a => (a, .int (hf a) 0)) ep))
    (hval : ms = true → ∀ M : Int, M ∈ -1 :: (dn.filter fun a => ld a t).map hf → (∀ a ∈ -1 :: (dn.filter fun a => ld a t).map hf, a ≤ M) → M + 1 = hf t) (nd : [oa, ol, hd].Nodup)
    (l1 : L "own" = some (.ref oa)) (l2 : L "olds" = some (.ref ol)) (l3 : L "leads" = some (.ref LD)) (l4 : L "hours" = some (.ref hd)) (l5 : L "thing" = some (.int t 0)) (l6 : L "must" = some (.bool ms)) {Q : Flow → Loc → AH → Prop}
    (h : ∀ (H' : AH) (p : Addr) (ep' : Nat), H p = none → H' p = some (.list (ivs (six.map o))) → H' ol = some (.list (six.map fun j => ov (fset op t (some (p, o)) j))) → H' hd = some (.dict ((if ms then dn ++ [t] else dn).map fun a => (a, .int (hf a) 0)) ep') → (∀ b y, H b = some y → b ≠ ol → b ≠ hd → H' b = some y) → Q .next L H') : SWp C A f (thB.drop 2) L H Q := by
  refine ⟨?_⟩
  have FS : Frame f (_ :: _) := FS0
  have O' := X'.O
  obtain ⟨t0, t6⟩ := mem_six.mp ht
  have e : thB.drop 2 = (_ :: _) := rfl
  rw [e]
  clear e
  have last : ∀ (H1 : AH) (ep1 : Nat), H1 oa = some (.list (ivs (six.map o))) → H1 ol = some (.list (six.map fun t => ov (op t))) → H1 hd = some (.dict ((if ms then dn ++ [t] else dn).map fun a => (a, .int (hf a) 0)) ep1) → (∀ b, H1 b = none → H b = none) → (∀ b y, H b = some y → b ≠ hd → H1 b = some y) → SW C A nx f (thB.drop 3) L H1 Q := by
    intro H1 ep1 ho1 hol1 hh1 fr1 k1
    have e : thB.drop 3 = (_ :: _) := rfl
    rw [e]
    clear e
    walk_at "ww"
    refine ⟨KeepOk.type, CallP.listList ho1 (by rw [ivs_len, List.length_map, six_len]; decide) fun p hp => ?_⟩
    have g2 : Ge H1 (upd H1 p (.list (ivs (six.map o)))) := .upd hp
    have hp2 := upd_self H1 p (.list (ivs (six.map o)))
    generalize upd H1 p (.list (ivs (six.map o))) = H2 at g2 hp2 ⊢
    walk_at "ww"
    intro o' i' v' eo ei ev'
    cases er_ref eo
    obtain ⟨ti, rfl⟩ := er_int ei
    have hol2 := g2 _ _ hol1
    refine setList hol2 t0 (by rw [List.length_map, six_len]; omega) (by omega) ?_
    have hpol : p ≠ ol := (ne_of_none hol1 hp).symm
    have hdol : hd ≠ ol := by simp only [List.nodup_cons, List.mem_cons, List.not_mem_nil, or_false, not_or] at nd; exact fun e => nd.2.1 e.symm
    rw [ev']
    walk_at "ww"
    refine h _ p ep1 (fr1 _ hp) ((upd_ne _ _ hpol).trans hp2) ((upd_self ..).trans ?_) ((upd_ne _ _ hdol).trans (g2 _ _ hh1)) fun b y hb h1 h2 => (upd_ne _ _ h1).trans (g2 _ _ (k1 b y hb h2))
    rw [six_set _ _ t0 t6]
    refine congrArg (fun l => some (AO.list l)) (List.map_congr_left fun j _ => ?_)
    by_cases e : j = t
    · subst e; rw [fset_same, fset_same]; rfl
    · rw [fset_ne _ _ e, fset_ne _ _ e]
  walk_at "ww"
  refine P1.truthy_bool ?_
  cases ms with
  | false =>
    refine ite_f ?_
    refine SW.nil ?_
    with_reducible refine seqQ.next ?_
    exact last H ep ho hol hh (fun _ h => h) fun _ _ h _ => h
  | true =>
    refine ite_t ?_
    walk_at "ww"
    refine P1.neg fun tk => ?_
    walk_at "ww"
    refine ⟨show 1 ≤ sizeLine by decide, fun n1 hn1 => ?_⟩
    have g1 : Ge H (upd H n1 (.list (ivs [-1]))) := .upd hn1
    have hn2 : upd H n1 (.list (ivs [-1])) n1 = some (.list (ivs [-1])) := upd_self ..
    change EW C A nx f _ L (upd H n1 (.list (ivs [-1]))) _
    generalize upd H n1 (.list (ivs [-1])) = H1 at g1 hn2 ⊢
    walk_at "ww"
    refine EW.lcompJ FS.c rfl rfl (fun _ _ => rfl) ?_
    walk_at "ww"
    have hh1 := g1 _ _ hh
    refine CompJ.vals dn (fun a => .int a 0) (fun a => ld a t) (fun a => .int (hf a) 0) (fun H => H hd = some (.dict (dn.map fun a => (a, .int (hf a) 0)) ep)) hh1 (by
      have := IterP.dict' (C := C) (A := A) hA'.hd (d := hd) (es := dn.map fun a => (a, Value.int (hf a) 0)) (ep := ep)
      rw [List.map_map] at this
      exact this) (Nat.le_trans hdl (by decide)) (fun H' g => g _ _ hh1) ?_ ?_
    · intro f4 a L5 H5 ha FC4 g45 hl5 hu
      have q1 : L5 "leads" = some (.ref LD) := (hl5 "leads" rfl).trans l3
      have q2 : L5 "thing" = some (.int t 0) := (hl5 "thing" rfl).trans l5
      have q3 : L5 "hours" = some (.ref hd) := (hl5 "hours" rfl).trans l4
      have M5 := (M.ge g1).ge g45
      refine IfsW.one ?_
      walk_at "ww"
      refine M5.sub1 (by decide) (mem_jl.mpr (mem_six.mp (hdn a ha))) fun v ev => ?_
      rw [ev]
      walk_at "ww"
      refine M5.sub2 (by decide) (mem_jl.mpr (mem_six.mp (hdn a ha))) (mem_jl.mpr ⟨t0, t6⟩) fun v ev => ?_
      rw [ev]
      refine P1.truthy_bool ?_
      cases ea : ld a t with
      | true =>
        refine ite_t ?_
        walk_at "ww"
        refine Pe2.subDict (g45 _ _ hh1) (valueAt_map ha) ?_
        exact ⟨rfl, .refl, rfl, rfl⟩
      | false =>
        refine ite_f ?_
        exact ⟨rfl, .refl, rfl⟩
    intro ll H2 hll g12 hll2
    have hll3 : H2 ll = some (.list (ivs ((dn.filter fun a => ld a t).map hf))) := by
      rw [hll2]; simp [ivs]
    have hfl : (dn.filter fun a => ld a t).length ≤ 6 := Nat.le_trans (List.length_filter_le _ _) hdl
    refine P2.addList (g12 _ _ hn2) hll3 (by rw [ivs_len, ivs_len, List.length_map]; exact Nat.le_trans (Nat.add_le_add_left hfl _) (by decide)) fun r hr => ?_
    have hrr : upd H2 r (.list (ivs [-1] ++ ivs ((dn.filter fun a => ld a t).map hf))) r = some (.list (ivs (-1 :: (dn.filter fun a => ld a t).map hf))) := by
      rw [upd_self]; simp [ivs]
    have g3 : Ge H (upd H2 r (.list (ivs [-1] ++ ivs ((dn.filter fun a => ld a t).map hf)))) := (g1.trans g12).trans (.upd hr)
    generalize upd H2 r (.list (ivs [-1] ++ ivs ((dn.filter fun a => ld a t).map hf))) = H3 at g3 hrr ⊢
    walk_at "ww"
    refine ⟨KeepOk.builtin, CallP.maxInts hA'.hd hrr (by simp) fun Mx hm hM => ?_⟩
    have hmx := hval rfl Mx hm hM
    walk_at "ww"
    refine Pe2.add ?_
    rw [hmx]
    walk_at "ww"
    intro o' i' v' eo ei ev'
    cases er_ref eo
    obtain ⟨ti, rfl⟩ := er_int ei
    have hmk : t ∉ (dn.map fun a => (a, Value.int (hf a) 0)).map (·.1) := by
      rw [List.map_map]; simpa [Function.comp_def] using htn
    refine setDict (g3 _ _ hh) (by rw [List.length_map]; exact Nat.le_trans hdl (by decide)) fun ep' => ?_
    rw [ev', stored_new hmk]
    have hoh : oa ≠ hd ∧ ol ≠ hd := by
      simp only [List.nodup_cons, List.mem_cons, List.not_mem_nil, or_false, not_or] at nd
      exact ⟨nd.1.2, nd.2.1⟩
    have back : ∀ b, H3 b = none → H b = none := fun b hb => by
      cases e : H b with
      | none => rfl
      | some o => rw [g3 _ _ e] at hb; cases hb
    refine SW.nil ?_
    with_reducible refine seqQ.next ?_
    refine last _ ep' ((upd_ne _ _ hoh.1).trans (g3 _ _ ho)) ((upd_ne _ _ hoh.2).trans (g3 _ _ hol)) ((upd_self ..).trans ?_) (fun b hb => ?_) fun b y hb h1 => (upd_ne _ _ h1).trans (g3 _ _ hb)
    · simp
    · by_cases e : b = hd
      · subst e; rw [upd_self] at hb; cases hb
      · rw [upd_ne _ _ e] at hb; exact back b hb
end

theorem max_fold {xs : List Int} {M : Int} (h1 : M ∈ -1 :: xs) (h2 : ∀ a ∈ -1 :: xs, a ≤ M) : M = xs.foldl max (-1) := by
  have h3 := foldl_max_le xs (-1) (k := M) (h2 _ List.mem_cons_self) fun x hx => h2 x (List.mem_cons_of_mem _ hx)
  have h4 := le_foldl_max xs (-1)
  rcases List.mem_cons.mp h1 with rfl | h1
  · exact Int.le_antisymm h4.1 h3
  · exact Int.le_antisymm (h4.2 _ h1) h3
section
variable {C : Cx} {A : Around} {E : Value → Shared → Prop} {f : Fm} {L : Loc} {H H0 : AH}
set_option genInjectivity false in
structure Told (H : AH) (oa ol hd : Addr) (PK : Addr → Prop) (rc : Int → List (Int × Int)) (ld : Int → Int → Bool) (o : Int → Int) (W : List Int) (ss0 : Int → Option (List Int)) (op : Int → Option (Addr × (Int → Int))) (ds : List Int) (op1 : Int → Option (Addr × (Int → Int))) (H' : AH) : Prop where
  own : H' oa = some (.list (ivs (six.map o)))
  olds : H' ol = some (.list (six.map fun j => ov (op1 j)))
  new : ∀ j ∈ ds, ∃ p, op1 j = some (p, o)
  old : ∀ j, j ∉ ds → op1 j = op j
  pk : ∀ j p u, op1 j = some (p, u) → An4 (H' p = some (.list (ivs (six.map u)))) (PK p) (p ≠ ol) (p ≠ hd)
  hrs : ∃ ep, H' hd = some (.dict ((ds.filter (chg rc o ss0)).map fun a => (a, .int (hrB rc ld o W ss0 a) 0)) ep)
  keep : ∀ b y, H b = some y → b ≠ ol → b ≠ hd → H' b = some y
set_option maxHeartbeats 4000000 in
theorem lawJ (X' : Ctx C) {k : Nat} (hA' : AIn C A k) (FS0 : Frame f (fNames lawS)) {wa oa ol LD hd wb rc : Addr} {ra rl wl : Int → Addr} {rt : Int → List (Addr × Int × Int)} {o : Int → Int} {ld : Int → Int → Bool} {op : Int → Option (Addr × (Int → Int))} {W : List Int} {vs0 : Int → Int} {ss0 : Int → Option (List Int)} {ep : Nat} {PK : Addr → Prop}
    (hw : H wa = some (.list (ivs W))) (Bo : BuildOk (rcOf rt) ld W vs0 ss0) (hmm : ∀ t ∈ W, mst (rcOf rt) o t (op t) = chg (rcOf rt) o ss0 t)
    (ho : H oa = some (.list (ivs (six.map o)))) (hol : H ol = some (.list (six.map fun t => ov (op t)))) (hop : ∀ j p u, op j = some (p, u) → An4 (H p = some (.list (ivs (six.map u)))) (PK p) (p ≠ ol) (p ≠ hd)) (hpk : ∀ b, H b = none → PK b) (M : MX H0 LD 6 ra ld) (hh : H hd = some (.dict [] ep)) (R : RcAt H0 rc rl rt) (hwb : H0 wb = some (.list (six.map fun s => .ref (wl s)))) (hwl : ∀ s ∈ six, H0 (wl s) = some (.list (ivs (six.map (wy rt s)))))
    (nd : [oa, ol, hd].Nodup) (g00 : Ge H0 H) (n1 : H0 ol = none) (n2 : H0 hd = none)
    (l1 : L "own" = some (.ref oa)) (l2 : L "olds" = some (.ref ol)) (l3 : L "leads" = some (.ref LD)) (l4 : L "hours" = some (.ref hd)) (l5 : L "wanted" = some (.ref wa)) (l6 : L "ways" = some (.ref wb)) (l7 : L "recipes" = some (.ref rc)) {Q : Flow → Loc → AH → Prop}
    (h : ∀ (L' : Loc) (H' : AH) (S : List Int) (op1 : Int → Option (Addr × (Int → Int))), (∀ x : Str, x ≠ "thing" → x ≠ "must" → x ≠ "moved" → x ≠ "turns" → L' x = L x) → S.Perm W → Told H oa ol hd PK (rcOf rt) ld o W ss0 op S op1 H' → SWp C A f ((forBody lpS).drop 6) L' H' Q) : SWp C A f ((forBody lpS).drop 5) L H Q := by
  refine ⟨?_⟩
  have FS : Frame f (_ :: _) := FS0
  have O' := X'.O
  have e : (forBody lpS).drop 5 = (_ :: _) := rfl
  rw [e]
  clear e
  have hWl : W.length ≤ 6 := Bo.wl
  walk_at "ww"
  refine XW.for ?_
  walk_at "ww"
  refine ⟨KeepOk.builtin, CallP.sortedInts hw (.inl (Nat.lt_of_le_of_lt hWl (by decide))) fun sl S hsl hpm hso => ?_⟩
  have hSn : S.Nodup := hpm.nodup_iff.mpr Bo.n
  have hSW : ∀ t, t ∈ S ↔ t ∈ W := fun t => hpm.mem_iff
  have g0 : Ge H (upd H sl (.list (ivs S))) := .upd hsl
  have hsl1 := upd_self H sl (.list (ivs S))
  have fr0 : ∀ b, upd H sl (.list (ivs S)) b = none → H b = none := fun b hb => by
    cases e : H b with
    | none => rfl
    | some y => rw [g0 _ _ e] at hb; cases hb
  have hsol : sl ≠ ol := (ne_of_none hol hsl).symm
  have hshd : sl ≠ hd := (ne_of_none hh hsl).symm
  generalize upd H sl (.list (ivs S)) = H1 at g0 hsl1 fr0 ⊢
  refine ⟨ivs S, fun H => H sl = some (.list (ivs S)), hsl1, IterP.list hA'.hd, ?_⟩
  refine ForW.invT (fun xs L1 H' => Ex3 fun (ks ds : List Int) (op1 : Int → Option (Addr × (Int → Int))) => An6 (xs = ivs ks) (S = ds ++ ks) (∀ x : Str, x ≠ "thing" → x ≠ "must" → x ≠ "moved" → x ≠ "turns" → L1 x = L x) (Told H oa ol hd PK (rcOf rt) ld o W ss0 op ds op1 H') (H' sl = some (.list (ivs S))) (∀ b, H' b = none → H b = none)) ?_ ?_ ⟨S, [], op, rfl, rfl, fun _ _ _ _ _ => rfl, ⟨g0 _ _ ho, g0 _ _ hol, by simp, fun _ _ => rfl, fun j p u e => ⟨g0 _ _ (hop j p u e).1, (hop j p u e).2, (hop j p u e).3, (hop j p u e).4⟩, ⟨ep, g0 _ _ hh⟩, fun b y hb _ _ => g0 _ _ hb⟩, hsl1, fr0⟩
  · rintro L1 H2 ⟨ks, ds, op1, e1, e2, hl, T, hs2, fr⟩
    cases ks with
    | cons _ _ => cases e1
    | nil =>
      rw [List.append_nil] at e2
      subst e2
      with_reducible refine seqQ.next ?_
      exact (h L1 H2 S op1 hl hpm T).go
  rintro x xs L1 H2 T' hT' ⟨ks, ds, op1, e1, e2, hl, T, hs2, fr⟩
  cases ks with
  | nil => cases e1
  | cons t ks =>
  cases e1
  have htS : t ∈ S := by rw [e2]; simp
  have htW := (hSW t).mp htS
  have ht := mem_six.mpr (Bo.r t htW)
  have htd : t ∉ ds := by
    intro hm
    rw [e2, List.nodup_append] at hSn
    exact hSn.2.2 t hm t List.mem_cons_self rfl
  refine GW.cell ((FS.kinds _).trans rfl) (FS.cell _ rfl) ?_
  have gf : ∀ {H3 : AH}, (∀ b y, H b = some y → b ≠ ol → b ≠ hd → H3 b = some y) → Ge H0 H3 := fun k b y hb => k b y (g00 _ _ hb) (by first | exact no_some (n1) hb | exact (no_some (n1) hb).symm | exact no_some hb (n1) | exact (no_some hb (n1)).symm | exact two_ne (n1) hb (by intro q; cases q; done) | exact (two_ne (n1) hb (by intro q; cases q; done)).symm | (rintro rfl; rw [n1] at hb; cases hb)) (by first | exact no_some (n2) hb | exact (no_some (n2) hb).symm | exact no_some hb (n2) | exact (no_some hb (n2)).symm | exact two_ne (n2) hb (by intro q; cases q; done) | exact (two_ne (n2) hb (by intro q; cases q; done)).symm | (rintro rfl; rw [n2] at hb; cases hb))
  have g2 := gf T.keep
  have opt : op1 t = op t := T.old t htd
  refine (lawH X' hA' FS0 ht T.own T.olds (fun p u e => (T.pk t p u e).1) (R.ge g2) Bo.R (g2 _ _ hwb) (fun s hs => g2 _ _ (hwl s hs)) ((setL_ne (by decide)).trans ((hl _ (by decide) (by decide) (by decide) (by decide)).trans l1)) ((setL_ne (by decide)).trans ((hl _ (by decide) (by decide) (by decide) (by decide)).trans l2)) ((setL_ne (by decide)).trans ((hl _ (by decide) (by decide) (by decide) (by decide)).trans l6)) ((setL_ne (by decide)).trans ((hl _ (by decide) (by decide) (by decide) (by decide)).trans l7)) setL_same fun L3 H3 hl3 hm3 g23 => ?_).go
  have hl4 : ∀ x : Str, x ≠ "thing" → x ≠ "must" → x ≠ "moved" → x ≠ "turns" → L3 x = L x := fun x h1 h2 h3 h4 => (hl3 x h2 h3 h4).trans ((setL_ne h1).trans (hl x h1 h2 h3 h4))
  rw [opt, hmm t htW] at hm3
  obtain ⟨ep2, hh2⟩ := T.hrs
  have hds : ∀ a ∈ ds, a ∈ W := fun a ha => (hSW a).mp (by rw [e2]; exact List.mem_append_left _ ha)
  have hdl : ds.length ≤ 6 := by
    have := congrArg List.length e2
    rw [List.length_append, hpm.length_eq] at this
    lia
  refine lawI X' hA' FS0 ht (dn := ds.filter (chg (rcOf rt) o ss0)) (hf := hrB (rcOf rt) ld o W ss0) (fun a ha => mem_six.mpr (Bo.r a (hds a (List.mem_filter.mp ha).1))) (fun hm => htd (List.mem_filter.mp hm).1) (Nat.le_trans (List.length_filter_le _ _) hdl) (g23 _ _ T.own) (g23 _ _ T.olds) ((M.ge g2).ge g23) (g23 _ _ hh2) ?_ nd ((hl4 _ (by decide) (by decide) (by decide) (by decide)).trans l1) ((hl4 _ (by decide) (by decide) (by decide) (by decide)).trans l2) ((hl4 _ (by decide) (by decide) (by decide) (by decide)).trans l3) ((hl4 _ (by decide) (by decide) (by decide) (by decide)).trans l4) ((hl3 _ (by decide) (by decide) (by decide)).trans setL_same) hm3 fun H4 p ep4 hp hp4 ho4 hh4 k4 => ?_
  · intro hc Mx h1 h2
    rw [max_fold h1 h2]
    refine hr_uniq (fun a ha => (Bo.r a ha).1) Bo.L.lt (mem_six.mp ht).1 (mem_six.mp ht).2 rfl fun x => ?_
    constructor
    · intro hx
      obtain ⟨a, ha, rfl⟩ := List.mem_map.mp hx
      obtain ⟨h3, h4⟩ := List.mem_filter.mp ha
      obtain ⟨h5, h6⟩ := List.mem_filter.mp h3
      exact ⟨a, hds a h5, h6, h4, rfl⟩
    · rintro ⟨a, ha, h3, h4, rfl⟩
      refine List.mem_map.mpr ⟨a, List.mem_filter.mpr ⟨List.mem_filter.mpr ⟨?_, h3⟩, h4⟩, rfl⟩
      have haS := (hSW a).mpr ha
      have hlt := Bo.L.lt _ _ h4
      rw [e2] at haS hso
      rcases List.mem_append.mp haS with h | h
      · exact h
      · rcases List.mem_cons.mp h with rfl | h
        · lia
        · have := (List.pairwise_cons.mp (List.pairwise_append.mp hso).2.1).1 a h
          lia
  · have fr3 : ∀ b, H3 b = none → H2 b = none := fun b hb => by
      cases e : H2 b with
      | none => rfl
      | some y => rw [g23 _ _ e] at hb; cases hb
    have pol : p ≠ ol := by first | exact no_some (g23 _ _ T.olds) hp | exact (no_some (g23 _ _ T.olds) hp).symm | exact no_some hp (g23 _ _ T.olds) | exact (no_some hp (g23 _ _ T.olds)).symm | exact two_ne (g23 _ _ T.olds) hp (by intro q; cases q; done) | exact (two_ne (g23 _ _ T.olds) hp (by intro q; cases q; done)).symm | (rintro rfl; rw [g23 _ _ T.olds] at hp; cases hp)
    have phd : p ≠ hd := by first | exact no_some (g23 _ _ hh2) hp | exact (no_some (g23 _ _ hh2) hp).symm | exact no_some hp (g23 _ _ hh2) | exact (no_some hp (g23 _ _ hh2)).symm | exact two_ne (g23 _ _ hh2) hp (by intro q; cases q; done) | exact (two_ne (g23 _ _ hh2) hp (by intro q; cases q; done)).symm | (rintro rfl; rw [g23 _ _ hh2] at hp; cases hp)
    refine hT' _ _ _ ⟨k4 _ _ (g23 _ _ hs2) hsol hshd, ks, ds ++ [t], fset op1 t (some (p, o)), rfl, by rw [e2]; simp, hl4, ⟨?_, ho4, ?_, ?_, ?_, ⟨ep4, ?_⟩, fun b y hb h1 h2 => k4 _ _ (g23 _ _ (T.keep b y hb h1 h2)) h1 h2⟩, k4 _ _ (g23 _ _ hs2) hsol hshd, ?_⟩
    · have : oa ≠ ol ∧ oa ≠ hd := by
        simp only [List.nodup_cons, List.mem_cons, List.not_mem_nil, or_false, not_or] at nd
        exact nd.1
      exact k4 _ _ (g23 _ _ T.own) this.1 this.2
    · intro j hj
      by_cases e : j = t
      · subst e; exact ⟨p, fset_same ..⟩
      · rw [fset_ne _ _ e]
        rcases List.mem_append.mp hj with hj | hj
        · exact T.new j hj
        · exact absurd (List.mem_singleton.mp hj) e
    · intro j hj
      rw [fset_ne _ _ (by rintro rfl; exact hj (by simp))]
      exact T.old j fun h => hj (List.mem_append_left _ h)
    · intro j p' u ej
      by_cases e : j = t
      · subst e
        rw [fset_same] at ej
        cases ej
        exact ⟨hp4, hpk _ (fr _ (fr3 _ hp)), pol, phd⟩
      · rw [fset_ne _ _ e] at ej
        have := T.pk j p' u ej
        exact ⟨k4 _ _ (g23 _ _ this.1) this.3 this.4, this.2, this.3, this.4⟩
    · rw [hh4, List.filter_append]
      cases hc : chg (rcOf rt) o ss0 t <;> simp [hc]
    · intro b hb
      cases e : H b with
      | none => rfl
      | some y =>
        by_cases e1 : b = ol
        · subst e1; rw [ho4] at hb; cases hb
        · by_cases e3 : b = hd
          · subst e3; rw [hh4] at hb; cases hb
          · rw [k4 _ _ (g23 _ _ (T.keep b y e e1 e3)) e1 e3] at hb; cases hb
end

section
open PySem.SeqAt PySem.MeetsSeq
section
variable {C : Cx} {A : Around} {E : Value → Shared → Prop} {f : Fm} {L : Loc} {H H0 : AH}
theorem pair_eq {A : Around} {s : Shared} {p q : Addr} {x y : Int} (hu : A.units < cLine) (hp : Rep C s.heap p (.tuple (ivs [x, y]))) (hq : Rep C s.heap q (.tuple (ivs [x, y]))) (hne : p ≠ q) : EqAt A s (.ref p) (.ref q) true := by
  obtain ⟨vs, n, e, w⟩ := hp
  obtain ⟨us, m, e2, w2⟩ := hq
  have h1 : vs.size = 2 := by have := size_er w; simpa [ivs] using this
  have h2 : us.size = 2 := by have := size_er w2; simpa [ivs] using this
  have r := PySem.SeqAt.RcAt.tuples (A := A) (e := fun _ => true) (l := p) (b := q) ⟨_, e, rfl, n, rfl⟩ ⟨_, e2, rfl, m, rfl⟩ hu (fun j j1 j2 => by
    obtain ⟨k1, t, ht⟩ := int_at w j1
    obtain ⟨k2, u, hu⟩ := int_at w2 j2
    rw [ht, hu]
    have := EqAt.int_int (A := A.in1) (s := s) (([x, y] : List Int)[j]'k1) t (([x, y] : List Int)[j]'k2) u
    rw [beq_self_eq_true] at this
    exact this)
  rw [h1, h2] at r
  exact EqAt.of_refs hne r
theorem P2.neSame {a b : Addr} {mt mt' : List (Addr × Int × Int)} {Q : Value → AH → Prop} (hu : A.units < cLine) (hu1 : A.in1.units < cLine) (ha : H a = some (.list (mt.map fun m => .ref m.1))) (hb : H b = some (.list (mt'.map fun m => .ref m.1))) (ta : ∀ m ∈ mt, H m.1 = some (.tuple [.int m.2.1 0, .int m.2.2 0])) (tb : ∀ m ∈ mt', H m.1 = some (.tuple [.int m.2.1 0, .int m.2.2 0])) (e : mt.map (·.2) = mt'.map (·.2)) (hne : ∀ m ∈ mt, ∀ m' ∈ mt', m.1 ≠ m'.1) (h : Q (.bool false) H) : P2 C A E (compareOp .NotEq) (.ref a) (.ref b) H Q := by
  intro a' b' ea eb s R
  cases er_ref ea
  cases er_ref eb
  obtain ⟨vs, n, e1, q⟩ := R.rep a _ ha
  obtain ⟨us, m, e2, q2⟩ := R.rep b _ hb
  have q := refs_er (as := mt.map (·.1)) (q.trans (by rw [List.map_map]; rfl))
  have q2 := refs_er (as := mt'.map (·.1)) (q2.trans (by rw [List.map_map]; rfl))
  have hl : mt.length = mt'.length := by have := congrArg List.length e; simpa using this
  have h1 : vs.size = mt.length := by have := congrArg List.length q; simpa using this
  have h2 : us.size = mt'.length := by have := congrArg List.length q2; simpa using this
  have r := RcNeAt.lists (A := A) (e := fun _ => true) (l := a) (b := b) ⟨_, e1, rfl, n, rfl⟩ ⟨_, e2, rfl, m, rfl⟩ (by lia) hu (fun j j1 j2 => by
    have k1 : j < mt.length := by lia
    have k2 : j < mt'.length := by lia
    have v1 : vs[j] = .ref mt[j].1 := by
      have : vs.toList[j]? = some (.ref mt[j].1) := by rw [q]; simp [List.getElem?_eq_getElem k1]
      rw [Array.getElem?_toList, Array.getElem?_eq_getElem j1] at this
      exact Option.some.inj this
    have v2 : us[j] = .ref mt'[j].1 := by
      have : us.toList[j]? = some (.ref mt'[j].1) := by rw [q2]; simp [List.getElem?_eq_getElem k2]
      rw [Array.getElem?_toList, Array.getElem?_eq_getElem j2] at this
      exact Option.some.inj this
    have e3 : mt[j].2 = mt'[j].2 := by
      have : (mt.map (·.2))[j]? = (mt'.map (·.2))[j]? := by rw [e]
      rw [List.getElem?_map, List.getElem?_map, List.getElem?_eq_getElem k1, List.getElem?_eq_getElem k2] at this
      exact Option.some.inj this
    rw [v1, v2]
    refine pair_eq (x := mt[j].2.1) (y := mt[j].2.2) hu1 (R.rep _ _ (ta _ (List.getElem_mem k1))) ?_ (hne _ (List.getElem_mem k1) _ (List.getElem_mem k2))
    rw [e3]
    exact R.rep _ _ (tb _ (List.getElem_mem k2)))
  have e4 : (!(List.range vs.size).all fun _ => true) = false := by simp
  rw [e4] at r
  exact r C.prog C.w E _ (stay R h)
end

end

theorem perm_sorted_eq {α : Type} {κ : α → Int} : ∀ {l m : List α}, l.Perm m → l.Pairwise (fun a b => κ a < κ b) → m.Pairwise (fun a b => κ a < κ b) → l = m
  | [], m, h, _, _ => h.nil_eq
  | a :: l, [], h, _, _ => by have := h.length_eq; simp at this
  | a :: l, b :: m, h, h1, h2 => by
    obtain ⟨p1, q1⟩ := List.pairwise_cons.mp h1
    obtain ⟨p2, q2⟩ := List.pairwise_cons.mp h2
    have ha : a ∈ b :: m := h.mem_iff.mp List.mem_cons_self
    have hb : b ∈ a :: l := h.mem_iff.mpr List.mem_cons_self
    have e : a = b := by
      rcases List.mem_cons.mp ha with e | ha
      · exact e
      · rcases List.mem_cons.mp hb with e | hb
        · exact e.symm
        · have := p1 b hb; have := p2 a ha; lia
    subst e
    rw [perm_sorted_eq h.cons_inv q1 q2]
section
variable {C : Cx} {A : Around} {E : Value → Shared → Prop} {f : Fm} {L : Loc} {H H0 : AH}
set_option maxHeartbeats 4000000 in
theorem lawK (X' : Ctx C) {k : Nat} (hA' : AIn C A (k + 1)) (FS0 : Frame f (fNames lawS)) {r hd : Addr} {mt : List (Addr × Int × Int)} {T : List Int} {hf : Int → Int} {ep : Nat} (hr : H r = some (.list (mt.map fun m => .ref m.1))) (tup : ∀ m ∈ mt, H m.1 = some (.tuple [.int m.2.1 0, .int m.2.2 0])) (srt : (mt.map kk).Pairwise (· < ·)) (hh : H hd = some (.dict (T.map fun a => (a, .int (hf a) 0)) ep)) (hT : ∀ a ∈ T, a ∈ six) (nT : T.Nodup) (hmt : (mt.map (·.2)).Perm (T.map fun a => (hf a, a)))
    (l1 : L "made" = some (.ref r)) (l2 : L "hours" = some (.ref hd)) {Q : Flow → Loc → AH → Prop} (h : ∀ (H' : AH), Ge H H' → Q .next L H') : SWp C A f ((forBody lpS).drop 6) L H Q := by
  refine ⟨?_⟩
  have FS : Frame f (_ :: _) := FS0
  have O' := X'.O
  have e : (forBody lpS).drop 6 = (_ :: _) := rfl
  rw [e]
  clear e
  have hTl : T.length ≤ 6 := nodup_len (m := six) nT hT
  walk_at "ww"
  refine EW.lcompJ FS.c rfl rfl (fun _ _ => rfl) ?_
  walk_at "ww"
  refine CompJ.objs (fun p : Int × Int => .tuple [.int p.1 0, .int p.2 0]) T (fun a => .int a 0) (fun a => (hf a, a)) (fun H => H hd = some (.dict (T.map fun a => (a, .int (hf a) 0)) ep)) hh (by
      have := IterP.dict' (C := C) (A := A) hA'.hd (d := hd) (es := T.map fun a => (a, Value.int (hf a) 0)) (ep := ep)
      rw [List.map_map] at this
      exact this) (Nat.le_trans hTl (by decide)) (fun H' g => g _ _ hh) ?_ ?_
  · intro f4 a L5 H5 ha FC4 g45 hl5 hu
    have q3 : L5 "hours" = some (.ref hd) := (hl5 "hours" rfl).trans l2
    walk_at "ww"
    refine Pe2.subDict (g45 _ _ hh) (valueAt_map ha) ?_
    walk_at "ww"
    refine ⟨show 2 ≤ sizeLine by decide, fun r8 hr8 => ?_⟩
    exact ⟨rfl, .upd hr8, r8, rfl, hr8, upd_self ..⟩
  intro cl H1 ws hcl g1 hcl1 hws ews ndw
  have hwm : ∀ w ∈ ws, ∃ a ∈ T, w.2 = (hf a, a) := fun w hw => by
    have : w.2 ∈ T.map fun a => (hf a, a) := by rw [← ews]; exact List.mem_map.mpr ⟨w, hw, rfl⟩
    obtain ⟨a, ha, e⟩ := List.mem_map.mp this
    exact ⟨a, ha, e.symm⟩
  have hkn : (ws.map kk).Nodup := by
    have : ws.map kk = T.map fun a => hf a * 8 + a := by
      have := congrArg (List.map fun p : Int × Int => p.1 * 8 + p.2) ews
      rw [List.map_map, List.map_map] at this
      exact this
    rw [this]
    unfold List.Nodup at nT ⊢
    rw [List.pairwise_map]
    refine nT.imp_of_mem ?_
    intro a b ha hb hne e
    have h1 := mem_six.mp (hT a ha)
    have h2 := mem_six.mp (hT b hb)
    lia
  walk_at "ww"
  refine ⟨KeepOk.builtin, CallP.sortedPairs hcl1 (fun m hm => (hws m hm).2.2) (fun m hm => ?_) hkn (by have := congrArg List.length ews; rw [List.length_map, List.length_map] at this; lia) fun r2 ws' hr2 hp2 hs2 => ?_⟩
  · obtain ⟨a, ha, e⟩ := hwm m hm
    rw [e]
    have := mem_six.mp (hT a ha)
    exact ⟨this.1, by show a < 8; lia⟩
  have g2 : Ge H1 (upd H1 r2 (.list (ws'.map fun m => .ref m.1))) := .upd hr2
  have hr22 := upd_self H1 r2 (.list (ws'.map fun m => .ref m.1))
  generalize upd H1 r2 (.list (ws'.map fun m => .ref m.1)) = H2 at g2 hr22 ⊢
  have g := g1.trans g2
  have e : mt.map (·.2) = ws'.map (·.2) := by
    refine perm_sorted_eq (κ := fun p : Int × Int => p.1 * 8 + p.2) (hmt.trans (ews ▸ (hp2.map (·.2)).symm)) ?_ ?_
    · rw [List.pairwise_map]; exact List.pairwise_map.mp srt
    · rw [List.pairwise_map]; exact List.pairwise_map.mp hs2
  refine P2.neSame hA'.room ?_ (g _ _ hr) hr22 (fun m hm => g _ _ (tup m hm)) (fun m hm => g2 _ _ (hws m (hp2.mem_iff.mp hm)).2.2) e (fun m hm m' hm' e => ?_) ?_
  · show A.in1.units < cLine
    have h1 := hA'.un
    have e : cLine = 9900 := rfl
    have e2 : A.in1.units = A.units + 1 := rfl
    lia
  · have := (hws m' (hp2.mem_iff.mp hm')).1
    rw [← e, tup m hm] at this; cases this
  refine ⟨_, rfl, ?_⟩
  refine ite_f ?_
  refine SW.nil ?_
  with_reducible refine seqQ.next ?_
  refine SW.nil ?_
  exact h H2 g
end

set_option genInjectivity false in
structure Fz (H0 : AH) (oa va sa ol rc wb LD : Addr) (rl wl ra : Int → Addr) (rt : Int → List (Addr × Int × Int)) : Prop where
  R : RcAt H0 rc rl rt
  Ro : RcOk (rcOf rt)
  wb : H0 wb = some (.list (six.map fun s => .ref (wl s)))
  wl : ∀ s ∈ six, H0 (wl s) = some (.list (ivs (six.map (wy rt s))))
  M : MX H0 LD 6 ra (ldJ rt)
  n : ∀ x ∈ [oa, va, sa, ol], H0 x = none
  nd : [oa, va, sa, ol].Nodup
set_option genInjectivity false in
structure MI (H0 : AH) (oa va sa ol : Addr) (rt : Int → List (Addr × Int × Int)) (H : AH) (o vs : Int → Int) (sp : Int → Option (Addr × List Int)) (op : Int → Option (Addr × (Int → Int))) : Prop where
  ge : Ge H0 H
  own : H oa = some (.list (ivs (six.map o)))
  val : H va = some (.list (ivs (six.map vs)))
  seen : H sa = some (.list (six.map fun t => sv (sp t)))
  olds : H ol = some (.list (six.map fun t => ov (op t)))
  hp : ∀ t p xs, sp t = some (p, xs) → An4 (H p = some (.list (ivs xs))) (p ≠ va) (p ≠ sa) (p ≠ oa ∧ p ≠ ol)
  hq : ∀ j p u, op j = some (p, u) → An3 (H p = some (.list (ivs (six.map u)))) (p ≠ oa ∧ p ≠ va ∧ p ≠ sa) (p ≠ ol)
  rel : ∀ t ∈ six, (op t = none ∧ sp t = none) ∨ ∃ p u q, An3 (op t = some (p, u)) (sp t = some (q, parts (rcOf rt) u t)) (vs t = (parts (rcOf rt) u t).sum)
theorem want_mem {ld : Int → Int → Bool} {gl t : Int} : t ∈ wantW ld gl ↔ t ∈ six ∧ (t = gl ∨ ld t gl = true) := by
  unfold wantW
  rw [List.mem_filter, List.mem_reverse, Bool.or_eq_true, beq_iff_eq]
theorem want_ok {rt : Int → List (Addr × Int × Int)} (Ro : RcOk (rcOf rt)) {gl : Int} (g0 : 0 ≤ gl) (g6 : gl < 6) {vs : Int → Int} {ss : Int → Option (List Int)} (hs : ∀ t ∈ six, ∀ xs, ss t = some xs → vs t = xs.sum) : BuildOk (rcOf rt) (ldJ rt) (wantW (ldJ rt) gl) vs ss := by
  have L := ldJ_ok Ro
  refine ⟨Ro, L, fun t h => mem_six.mp (want_mem.mp h).1, ?_, fun t h p hp => ?_, fun t h xs e => hs t (want_mem.mp h).1 xs e⟩
  · exact List.Pairwise.filter _ (show six.reverse.Nodup by decide)
  · obtain ⟨h1, h2⟩ := want_mem.mp h
    obtain ⟨t0, t6⟩ := mem_six.mp h1
    have hl := Ro.lt t t0 t6 p hp
    have hpt : ldJ rt p.1 t = true := (L.eq p.1 t t0 t6).mpr ⟨p, hp, .inl rfl⟩
    refine want_mem.mpr ⟨mem_six.mpr ⟨hl.1, by lia⟩, .inr ?_⟩
    rcases h2 with rfl | h2
    · exact hpt
    · exact (lds_ord (ndJ_lt Ro)).tr _ _ _ hpt h2
theorem want_first {ld : Int → Int → Bool} {gl : Int} (g0 : 0 ≤ gl) (g6 : gl < 6) : ∃ w0, (wantW ld gl)[0]? = some w0 := by
  have : gl ∈ wantW ld gl := want_mem.mpr ⟨mem_six.mpr ⟨g0, g6⟩, .inl rfl⟩
  cases e : wantW ld gl with
  | nil => rw [e] at this; cases this
  | cons a l => exact ⟨a, rfl⟩
section
variable {C : Cx} {A : Around} {E : Value → Shared → Prop} {f : Fm} {L : Loc} {H H0 : AH}
set_option maxHeartbeats 4000000 in
theorem lawT (X' : Ctx C) {k : Nat} (hA' : AIn C A (k + 10)) (FS0 : Frame f (fNames lawS)) {oa va sa ol rc wb LD : Addr} {rl wl ra : Int → Addr} {rt : Int → List (Addr × Int × Int)} {o vs : Int → Int} {sp : Int → Option (Addr × List Int)} {op : Int → Option (Addr × (Int → Int))} {x : Int} (Z : Fz H0 oa va sa ol rc wb LD rl wl ra rt) (I : MI H0 oa va sa ol rt H o vs sp op)
    (l1 : An4 (L "own" = some (.ref oa)) (L "values" = some (.ref va)) (L "seen" = some (.ref sa)) (L "olds" = some (.ref ol))) (l2 : An4 (L "recipes" = some (.ref rc)) (L "ways" = some (.ref wb)) (L "leads" = some (.ref LD)) (L "x" = some (.int x 0))) {Q : Flow → Loc → AH → Prop}
    (h : ∀ (L' : Loc) (H' : AH) (o' vs' : Int → Int) (sp' : Int → Option (Addr × List Int)) (op' : Int → Option (Addr × (Int → Int))), (∀ x : Str, x ∉ (["goal", "wanted", "made", "hours", "thing", "must", "moved", "turns"] : List Str) → L' x = L x) → MI H0 oa va sa ol rt H' o' vs' sp' op' → (∀ b y, H b = some y → b ∉ [oa, va, sa, ol] → H' b = some y) → Q .next L' H') : SWp C A f (forBody lpS) L H Q := by
  have nd := Z.nd
  simp only [List.nodup_cons, List.mem_cons, List.not_mem_nil, or_false, not_or, List.nodup_nil, and_true, not_false_eq_true] at nd
  obtain ⟨⟨n1, n2, n3⟩, ⟨n4, n5⟩, n6⟩ := nd
  have off : ∀ {b y}, H0 b = some y → ∀ x ∈ [oa, va, sa, ol], b ≠ x := fun hb x hx e => by rw [e, Z.n x hx] at hb; cases hb
  have Lo := ldJ_ok Z.Ro
  refine lawF X' hA' FS0 I.own (Z.M.ge I.ge) ⟨off Z.M.top _ (by simp), fun a ha => off (Z.M.row a ha) _ (by simp)⟩ l1.1 l2.3 l2.4 fun L1 H1 wa gl o1 hl1 lw g0 g6 hwa hwn ho1 k1 => ?_
  obtain ⟨w0, hw0⟩ := want_first (ld := ldJ rt) g0 g6
  have Bo : BuildOk (rcOf rt) (ldJ rt) (wantW (ldJ rt) gl) vs fun j => (sp j).map (·.2) := want_ok Z.Ro g0 g6 fun t ht xs e => by
    rcases I.rel t ht with ⟨_, e2⟩ | ⟨p, u, q, e1, e2, e3⟩
    · rw [e2] at e; cases e
    · rw [e2] at e; cases e; exact e3
  have kz : ∀ {b y}, H0 b = some y → H1 b = some y := fun hb => k1 _ _ (I.ge _ _ hb) (off hb _ (by simp))
  have wne : ∀ x ∈ [oa, va, sa, ol], wa ≠ x := fun x hx e => by
    subst e
    simp only [List.mem_cons, List.not_mem_nil, or_false] at hx
    rcases hx with h | h | h | h
    · rw [h, I.own] at hwn; cases hwn
    · rw [h, I.val] at hwn; cases hwn
    · rw [h, I.seen] at hwn; cases hwn
    · rw [h, I.olds] at hwn; cases hwn
  have R1 : RcAt H1 rc rl rt := ⟨kz Z.R.top, fun t ht => kz (Z.R.each t ht), fun t ht p hp => kz (Z.R.tup t ht p hp), Z.R.len⟩
  have hv1 := k1 _ _ I.val (Ne.symm n1)
  have hs1 := k1 _ _ I.seen (Ne.symm n2)
  have hol1 := k1 _ _ I.olds (Ne.symm n3)
  refine lawG X' hA' FS0 (OK := fun p => p ≠ oa ∧ p ≠ ol) hwa ho1 R1 hv1 hs1 (fun t p xs e => ⟨k1 _ _ (I.hp t p xs e).1 (I.hp t p xs e).4.1, (I.hp t p xs e).2, (I.hp t p xs e).3, (I.hp t p xs e).4⟩) n4 (fun y hy => ?_) (fun t ht => ⟨off (Z.R.each t ht) _ (by simp), off (Z.R.each t ht) _ (by simp)⟩) (fun b hb => ⟨(by first | exact no_some (ho1) hb | exact (no_some (ho1) hb).symm | exact no_some hb (ho1) | exact (no_some hb (ho1)).symm | exact two_ne (ho1) hb (by intro q; cases q; done) | exact (two_ne (ho1) hb (by intro q; cases q; done)).symm | (rintro rfl; rw [ho1] at hb; cases hb)), (by first | exact no_some (hol1) hb | exact (no_some (hol1) hb).symm | exact no_some hb (hol1) | exact (no_some hb (hol1)).symm | exact two_ne (hol1) hb (by intro q; cases q; done) | exact (two_ne (hol1) hb (by intro q; cases q; done)).symm | (rintro rfl; rw [hol1] at hb; cases hb))⟩) Bo hw0 lw ((hl1 _ (by decide) (by decide)).trans l2.1) ((hl1 _ (by decide) (by decide)).trans l1.1) ((hl1 _ (by decide) (by decide)).trans l1.2) ((hl1 _ (by decide) (by decide)).trans l1.3) fun L2 H2 r hd ep mt vs2 sp2 hl2 lm lh B hhd hdn => ?_
  · simp only [List.mem_cons, List.not_mem_nil, or_false] at hy
    rcases hy with rfl | rfl | rfl
    · exact ⟨wne _ (by simp), wne _ (by simp)⟩
    · exact ⟨n1, n2⟩
    · exact ⟨off Z.R.top _ (by simp), off Z.R.top _ (by simp)⟩
  have k2 : ∀ b y, H b = some y → b ≠ oa → b ≠ va → b ≠ sa → H2 b = some y := fun b y hb h1 h2 h3 => B.st b y (k1 b y hb h1) h2 h3
  have g02 : Ge H0 H2 := fun b y hb => k2 b y (I.ge _ _ hb) (off hb _ (by simp)) (off hb _ (by simp)) (off hb _ (by simp))
  have ho2 := B.st _ _ ho1 n1 n2
  have hol2 := B.st _ _ hol1 (Ne.symm n5) (Ne.symm n6)
  have hdo : ∀ {b y}, H1 b = some y → hd ≠ b := fun hb e => by rw [e, hb] at hdn; cases hdn
  have hw2 := B.st _ _ hwa (wne _ (by simp)) (wne _ (by simp))
  have hl2' : ∀ x : Str, x ≠ "goal" → x ≠ "wanted" → x ≠ "made" → x ≠ "hours" → L2 x = L x := fun x h1 h2 h3 h4 => (hl2 x h3 h4).trans (hl1 x h1 h2)
  have hd0 : H0 hd = none := by
    cases e : H0 hd with
    | none => rfl
    | some y => rw [kz e] at hdn; cases hdn
  refine lawJ X' hA' FS0 (PK := fun p => p ≠ oa ∧ p ≠ va ∧ p ≠ sa) (H0 := H0) hw2 Bo (fun t ht => ?_) ho2 hol2 (fun j p u e => ?_) (fun b hb => ⟨(by first | exact no_some (ho2) hb | exact (no_some (ho2) hb).symm | exact no_some hb (ho2) | exact (no_some hb (ho2)).symm | exact two_ne (ho2) hb (by intro q; cases q; done) | exact (two_ne (ho2) hb (by intro q; cases q; done)).symm | (rintro rfl; rw [ho2] at hb; cases hb)), (by first | exact no_some (B.hv) hb | exact (no_some (B.hv) hb).symm | exact no_some hb (B.hv) | exact (no_some hb (B.hv)).symm | exact two_ne (B.hv) hb (by intro q; cases q; done) | exact (two_ne (B.hv) hb (by intro q; cases q; done)).symm | (rintro rfl; rw [B.hv] at hb; cases hb)), (by first | exact no_some (B.hs) hb | exact (no_some (B.hs) hb).symm | exact no_some hb (B.hs) | exact (no_some hb (B.hs)).symm | exact two_ne (B.hs) hb (by intro q; cases q; done) | exact (two_ne (B.hs) hb (by intro q; cases q; done)).symm | (rintro rfl; rw [B.hs] at hb; cases hb))⟩) Z.M hhd Z.R Z.wb Z.wl ?_ g02 (Z.n _ (by simp)) hd0 ((hl2' _ (by decide) (by decide) (by decide) (by decide)).trans l1.1) ((hl2' _ (by decide) (by decide) (by decide) (by decide)).trans l1.4) ((hl2' _ (by decide) (by decide) (by decide) (by decide)).trans l2.3) lh ((hl2 _ (by decide) (by decide)).trans lw) ((hl2' _ (by decide) (by decide) (by decide) (by decide)).trans l2.2) ((hl2' _ (by decide) (by decide) (by decide) (by decide)).trans l2.1) fun L3 H3 S op3 hl3 hpm T => ?_
  · rw [Bool.eq_iff_iff, chg, decide_eq_true_iff]
    show _ ↔ (sp t).map (·.2) ≠ some (parts (rcOf rt) o1 t)
    rcases I.rel t (mem_six.mpr (Bo.r t ht)) with ⟨e1, e2⟩ | ⟨p, u, q, e1, e2, _⟩
    · rw [e1, e2]; simp [mst]
    · rw [e1, e2, mst, decide_eq_true_iff]
      simp
  · have := I.hq j p u e
    have h1 := k1 _ _ this.1 this.2.1
    exact ⟨k2 _ _ this.1 this.2.1 this.2.2.1 this.2.2.2, this.2, this.3, (hdo h1).symm⟩
  · have a1 := hdo ho1
    have a2 := hdo hol1
    simp only [List.nodup_cons, List.mem_cons, List.not_mem_nil, or_false, not_or, List.nodup_nil, and_true, not_false_eq_true]
    exact ⟨⟨n3, a1.symm⟩, a2.symm⟩
  obtain ⟨kk0, D, BIx, ⟨mt0, pm0, ⟨T0, eT, nT0, mT0⟩⟩, hD⟩ := B.ex
  obtain ⟨ep3, hh3⟩ := T.hrs
  have hSn : S.Nodup := hpm.nodup_iff.mpr Bo.n
  have hSW : ∀ t, t ∈ S ↔ t ∈ wantW (ldJ rt) gl := fun t => hpm.mem_iff
  have hDW : ∀ t, t ∈ D ↔ t ∈ wantW (ldJ rt) gl := fun t => ⟨fun h => (BIx.dn t h).1, hD t⟩
  have rol : r ≠ ol := by first | exact no_some (B.r0) (hol1) | exact no_some (hol1) (B.r0) | exact (no_some (B.r0) (hol1)).symm | exact (no_some (hol1) (B.r0)).symm | exact two_ne (B.r0) (hol1) (by intro q; cases q; done) | exact (two_ne (B.r0) (hol1) (by intro q; cases q; done)).symm | (intro e; have := B.r0; rw [e, hol1] at this; cases this)
  have rhd : r ≠ hd := by first | exact no_some (B.hr) (hhd) | exact no_some (hhd) (B.hr) | exact (no_some (B.hr) (hhd)).symm | exact (no_some (hhd) (B.hr)).symm | exact two_ne (B.hr) (hhd) (by intro q; cases q; done) | exact (two_ne (B.hr) (hhd) (by intro q; cases q; done)).symm | (intro e; have := B.hr; rw [e, hhd] at this; cases this)
  have tl : ∀ m ∈ mt, m.1 ≠ ol ∧ m.1 ≠ hd := fun m hm => ⟨fun e => (by have := B.tup m hm; rw [e, hol2] at this; cases this), fun e => (by have := B.tup m hm; rw [e, hhd] at this; cases this)⟩
  refine lawK X' (hA'.le (j := 1) (by lia)) FS0 (T.keep _ _ B.hr rol rhd) (fun m hm => T.keep _ _ (B.tup m hm) (tl m hm).1 (tl m hm).2) B.srt hh3 (fun a ha => mem_six.mpr (Bo.r a ((hSW a).mp (List.mem_filter.mp ha).1))) (List.Pairwise.filter _ hSn) ?_ ?_ ?_ fun H4 g34 => ?_
  · have e0 : (mt0.map (·.2)).Perm ((S.filter (chg (rcOf rt) o1 fun j => (sp j).map (·.2))).map fun a => (hrB (rcOf rt) (ldJ rt) o1 (wantW (ldJ rt) gl) (fun j => (sp j).map (·.2)) a, a)) := by
      rw [eT]
      refine List.Perm.map _ ((List.perm_ext_iff_of_nodup nT0 (List.Pairwise.filter _ hSn)).mpr fun a => ?_)
      rw [mT0, hDW, List.mem_filter, hSW]
    exact ((pm0.map (·.2)).symm).trans e0
  · exact (hl3 _ (by decide) (by decide) (by decide) (by decide)).trans lm
  · exact (hl3 _ (by decide) (by decide) (by decide) (by decide)).trans lh
  have vol : va ≠ ol ∧ va ≠ hd := ⟨n5, (hdo hv1).symm⟩
  have sol : sa ≠ ol ∧ sa ≠ hd := ⟨n6, (hdo hs1).symm⟩
  have k3 : ∀ b y, H b = some y → b ∉ [oa, va, sa, ol] → H4 b = some y := fun b y hb hn => by
    simp only [List.mem_cons, List.not_mem_nil, or_false, not_or] at hn
    have h1 := k1 b y hb hn.1
    exact g34 _ _ (T.keep _ _ (k2 b y hb hn.1 hn.2.1 hn.2.2.1) hn.2.2.2 (hdo h1).symm)
  refine h L3 H4 o1 vs2 sp2 op3 (fun x hx => ?_) ⟨fun b y hb => k3 b y (I.ge _ _ hb) (fun hn => absurd rfl (off hb _ hn)), g34 _ _ T.own, g34 _ _ (T.keep _ _ B.hv vol.1 vol.2), g34 _ _ (T.keep _ _ B.hs sol.1 sol.2), g34 _ _ T.olds, fun t p xs e => ?_, fun j p u e => ?_, fun t ht => ?_⟩ k3
  · simp only [List.mem_cons, List.not_mem_nil, or_false, not_or] at hx
    exact (hl3 x hx.2.2.2.2.1 hx.2.2.2.2.2.1 hx.2.2.2.2.2.2.1 hx.2.2.2.2.2.2.2).trans (hl2' x hx.1 hx.2.1 hx.2.2.1 hx.2.2.2.1)
  · have q := B.hp t p xs e
    refine ⟨g34 _ _ (T.keep _ _ q.1 q.4.2 ?_), q.2, q.3, q.4⟩
    intro e; rw [e, hhd] at q; cases q.1
  · have q := T.pk j p u e
    exact ⟨g34 _ _ q.1, q.2, q.3⟩
  · obtain ⟨t0, t6⟩ := mem_six.mp ht
    by_cases hw : t ∈ wantW (ldJ rt) gl
    · have d := BIx.dn t (hD t hw)
      obtain ⟨p, ep⟩ := T.new t ((hSW t).mpr hw)
      have d3 : (sp2 t).map (·.2) = some (parts (rcOf rt) o1 t) := d.3
      cases e : sp2 t with
      | none => rw [e] at d3; cases d3
      | some q =>
        rw [e] at d3
        obtain ⟨q1, q2⟩ := q
        have : q2 = parts (rcOf rt) o1 t := Option.some.inj d3
        subst this
        exact .inr ⟨p, o1, q1, ep, rfl, d.2.trans (parts_sum Z.Ro o1 t0 t6).symm⟩
    · have d := BIx.nt t (fun h => hw ((hDW t).mp h)) (by simp)
      have d2 : (sp2 t).map (·.2) = (sp t).map (·.2) := d.2
      rw [T.old t (fun h => hw ((hSW t).mp h)), d.1]
      rcases I.rel t ht with ⟨e1, e2⟩ | ⟨p, u, q, e1, e2, e3⟩
      · left
        rw [e2] at d2
        refine ⟨e1, ?_⟩
        cases e : sp2 t with
        | none => rfl
        | some q => rw [e] at d2; cases d2
      · right
        rw [e2] at d2
        cases e : sp2 t with
        | none => rw [e] at d2; cases d2
        | some q' =>
          rw [e] at d2
          obtain ⟨q1, q2⟩ := q'
          have : q2 = parts (rcOf rt) u t := Option.some.inj d2
          subst this
          exact ⟨p, u, q1, e1, rfl, e3⟩
end

section
variable {C : Cx} {A : Around} {E : Value → Shared → Prop} {f : Fm} {L : Loc} {H H0 : AH}
set_option maxHeartbeats 4000000 in
theorem lawL (X' : Ctx C) {k : Nat} (hA' : AIn C A (k + 10)) (FS0 : Frame f (fNames lawS)) {oa va sa ol rc wb LD sc : Addr} {half : Nat} {ns : List Int} {rl wl ra : Int → Addr} {rt : Int → List (Addr × Int × Int)} {o vs : Int → Int} {sp : Int → Option (Addr × List Int)} {op : Int → Option (Addr × (Int → Int))} (Z : Fz H0 oa va sa ol rc wb LD rl wl ra rt) (I : MI H0 oa va sa ol rt H o vs sp op) (hsc : H sc = some (.blist (ivs ns))) (hns : ns.length ≤ 63)
    (l1 : An4 (L "own" = some (.ref oa)) (L "values" = some (.ref va)) (L "seen" = some (.ref sa)) (L "olds" = some (.ref ol))) (l2 : An3 (L "recipes" = some (.ref rc)) (L "ways" = some (.ref wb)) (L "leads" = some (.ref LD))) (l3 : L "half" = some (.int half 0)) (l4 : L "script" = some (.ref sc)) {Q : Flow → Loc → AH → Prop}
    (h : ∀ u L' H', er u = .bool true → Q (.ret u) L' H') : SWp C A f ((fBody lawS).drop 13) L H Q := by
  refine ⟨?_⟩
  have FS : Frame f (_ :: _) := FS0
  have O' := X'.O
  have e : (fBody lawS).drop 13 = [.For (.Name _ _) (.BinOp _ _ _ _) (forBody lpS) _ _, _] := rfl
  rw [e]
  clear e
  walk_at "ww"
  refine XW.for ?_
  walk_at "ww"
  refine P1.neg fun tk => ?_
  walk_at "ww"
  refine ⟨show 4 ≤ sizeLine by decide, fun n1 hn1 => ?_⟩
  have g1 : Ge H (upd H n1 (.list (ivs [5, 76, 5, -67]))) := .upd hn1
  have hn2 : upd H n1 (.list (ivs [5, 76, 5, -67])) n1 = some (.list (ivs [5, 76, 5, -67])) := upd_self ..
  change EW C A nx f _ L (upd H n1 (.list (ivs [5, 76, 5, -67]))) _
  generalize upd H n1 (.list (ivs [5, 76, 5, -67])) = H1 at g1 hn2 ⊢
  walk_at "ww"
  refine ⟨_, rfl, ?_⟩
  refine EWo.none fun c hc => ?_
  have g2 : Ge H (upd H1 c (.slice (some ((half : Nat) : Int)) none)) := g1.trans (.upd hc)
  have hn3 := upd_fresh (o := .slice (some ((half : Nat) : Int)) none) hc _ _ hn2
  refine P2.sliceB (g2 _ _ hsc) (upd_self ..) (by rw [ivs_len]; exact Nat.le_trans hns (by decide)) fun s1 hs1 => ?_
  rw [pick_lo]
  have g3 := g2.trans (.upd (o := .list (ivs (ns.drop half))) hs1)
  have hn4 := upd_fresh (o := .list (ivs (ns.drop half))) hs1 _ _ hn3
  have hs2 := upd_self (upd H1 c (.slice (some ((half : Nat) : Int)) none)) s1 (.list (ivs (ns.drop half)))
  generalize upd (upd H1 c (.slice (some ((half : Nat) : Int)) none)) s1 (.list (ivs (ns.drop half))) = H2 at g3 hn4 hs2 ⊢
  refine P2.addList hn4 hs2 (by rw [ivs_len, ivs_len, List.length_drop]; exact Nat.le_trans (show 4 + (ns.length - half) ≤ 100 by omega) (by decide)) fun sl hsl => ?_
  have e2 : ivs [5, 76, 5, -67] ++ ivs (ns.drop half) = ivs ([5, 76, 5, -67] ++ ns.drop half) := by simp [ivs]
  rw [e2]
  generalize ([5, 76, 5, -67] ++ ns.drop half : List Int) = xs0
  have g4 := g3.trans (.upd (o := .list (ivs xs0)) hsl)
  have hsl2 := upd_self H2 sl (.list (ivs xs0))
  have nsl : sl ∉ [oa, va, sa, ol] := fun hm => by
    simp only [List.mem_cons, List.not_mem_nil, or_false] at hm
    rcases hm with e | e | e | e
    · rw [e, g3 _ _ I.own] at hsl; cases hsl
    · rw [e, g3 _ _ I.val] at hsl; cases hsl
    · rw [e, g3 _ _ I.seen] at hsl; cases hsl
    · rw [e, g3 _ _ I.olds] at hsl; cases hsl
  generalize upd H2 sl (.list (ivs xs0)) = H3 at g4 hsl2 ⊢
  have I3 : MI H0 oa va sa ol rt H3 o vs sp op := ⟨I.ge.trans g4, g4 _ _ I.own, g4 _ _ I.val, g4 _ _ I.seen, g4 _ _ I.olds, fun t p xs e => ⟨g4 _ _ (I.hp t p xs e).1, (I.hp t p xs e).2, (I.hp t p xs e).3, (I.hp t p xs e).4⟩, fun j p u e => ⟨g4 _ _ (I.hq j p u e).1, (I.hq j p u e).2, (I.hq j p u e).3⟩, I.rel⟩
  refine ⟨ivs xs0, fun H => H sl = some (.list (ivs xs0)), hsl2, IterP.list hA'.hd, ?_⟩
  refine ForW.invT (fun xs L1 H' => Ex5 fun (ks : List Int) (o vs : Int → Int) (sp : Int → Option (Addr × List Int)) (op : Int → Option (Addr × (Int → Int))) => An4 (xs = ivs ks) (∀ x : Str, x ∉ (["x", "goal", "wanted", "made", "hours", "thing", "must", "moved", "turns"] : List Str) → L1 x = L x) (MI H0 oa va sa ol rt H' o vs sp op) (H' sl = some (.list (ivs xs0)))) ?_ ?_ ⟨xs0, o, vs, sp, op, rfl, fun _ _ => rfl, I3, hsl2⟩
  · rintro L1 H4 _
    with_reducible refine seqQ.next ?_
    walk_at "ww"
    exact fun u eu => h u _ _ eu
  rintro x xs L1 H4 T' hT' ⟨ks, o4, vs4, sp4, op4, e1, hl, I4, hs4⟩
  cases ks with
  | nil => cases e1
  | cons x ks =>
  cases e1
  refine GW.local ((FS.kinds _).trans rfl) FS.loc ?_
  have gt : ∀ y : Str, y ∉ (["x", "goal", "wanted", "made", "hours", "thing", "must", "moved", "turns"] : List Str) → setL L1 "x" (.int x 0) y = L y := fun y hy => (setL_ne (fun e => hy (by rw [e]; exact List.mem_cons_self))).trans (hl y hy)
  refine (lawT X' hA' FS0 Z I4 ⟨(gt _ (by decide)).trans l1.1, (gt _ (by decide)).trans l1.2, (gt _ (by decide)).trans l1.3, (gt _ (by decide)).trans l1.4⟩ ⟨(gt _ (by decide)).trans l2.1, (gt _ (by decide)).trans l2.2, (gt _ (by decide)).trans l2.3, setL_same⟩ fun L5 H5 o5 vs5 sp5 op5 hl5 I5 k5 => ?_).go
  exact hT' _ _ _ ⟨k5 _ _ hs4 nsl, ks, o5, vs5, sp5, op5, rfl, fun y hy => (hl5 y (fun hm => hy (List.mem_cons_of_mem _ hm))).trans (gt y hy), I5, k5 _ _ hs4 nsl⟩
end

section
variable {C : Cx} {A : Around} {H : AH} {f : Fm}
theorem lawAll (X' : Ctx C) (hA' : AIn C A 99) (FS : Frame f (fNames lawS)) {L : Loc} {sc : Addr} {ns : List Int} (hsc : H sc = some (.blist (ivs ns))) (hL : L "script" = some (.ref sc)) (hns : ns.length ≤ 63) {Q : Flow → Loc → AH → Prop}
    (h : ∀ u L' H', er u = .bool true → Q (.ret u) L' H') : SWp C A f (fBody lawS) L H Q := by
  refine lawA X' hA' FS hsc hL hns fun L1 H1 nb rc nums half a1 a2 a3 a4 hnb hnl hrc hsc1 hrn => ?_
  refine lawB X' hA' FS hnb hnl hrc hrn a1 a2 fun L2 H2 rl rt l2 R2 k2 => ?_
  have hsr : sc ≠ rc := by first | exact no_some (hrc) hsc1 | exact (no_some (hrc) hsc1).symm | exact no_some hsc1 (hrc) | exact (no_some hsc1 (hrc)).symm | exact two_ne (hrc) hsc1 (by intro q; cases q; done) | exact (two_ne (hrc) hsc1 (by intro q; cases q; done)).symm | (rintro rfl; rw [hrc] at hsc1; cases hsc1)
  have hsc2 := k2 _ _ hsc1 hsr
  have Ro := R2.ok
  have R := R2.at
  refine lawC X' hA' FS R Ro ((l2 _ (by decide) (by decide)).trans a2) fun L3 H3 wb wl l3 w3 hwb hwl g3 => ?_
  refine lawD X' hA' FS (R.ge g3) ((l3 _ (by decide) (by decide) (by decide) (by decide)).trans ((l2 _ (by decide) (by decide)).trans a2)) fun L4 H4 LD ra l4 d4 M g4 => ?_
  refine lawE X' FS fun L5 H5 oa va sa ol l5 v5 o5 n5 nd g5 => ?_
  have up : ∀ {y : Str} {v : Value}, y ∉ (["thing", "told", "ways", "start", "row", "leads", "middle", "a", "b", "own", "values", "seen", "olds"] : List Str) → L1 y = some v → L5 y = some v := fun {y v} hy e => by
    simp only [List.mem_cons, List.not_mem_nil, or_false, not_or] at hy
    obtain ⟨y1, y2, y3, y4, y5, y6, y7, y8, y9, y10, y11, y12, y13⟩ := hy
    rw [l5 y y10 y11 y12 y13, l4 y y6 y7 y8 y9, l3 y y3 y4 y5 y1, l2 y y1 y2]; exact e
  refine lawL X' (k := 89) hA' FS (H0 := H4) (o := (· + 1)) (vs := fun _ => 0) (sp := fun _ => none) (op := fun _ => none) ⟨(R.ge g3).ge g4, Ro, g4 _ _ hwb, fun s hs => g4 _ _ (hwl s hs), M, n5, nd⟩ ⟨g5, o5.1, o5.2, o5.3, o5.4, fun t p xs e => (by cases e), fun j p u e => (by cases e), fun t _ => .inl ⟨rfl, rfl⟩⟩ (g5 _ _ (g4 _ _ (g3 _ _ hsc2))) hns v5 ⟨up (by decide) a2, (l5 _ (by decide) (by decide) (by decide) (by decide)).trans ((l4 _ (by decide) (by decide) (by decide) (by decide)).trans w3), (l5 _ (by decide) (by decide) (by decide) (by decide)).trans d4⟩ (up (by decide) a3) (up (by decide) a4) h
end
theorem ns_same {h : Heap} {a : Addr} {m m' : Str → Option Value} (x : h.Ns a m) (y : h.Ns a m') : m = m' := by
  obtain ⟨o, es, n, e1, e2, _, e3⟩ := x
  obtain ⟨o', es', n', f1, f2, _, f3⟩ := y
  rw [e1] at f1; cases f1
  rw [e2] at f2; cases f2
  funext z
  rw [← e3, ← f3]
noncomputable def LawIs (fa : Addr) : Prop := ∀ {C : Cx}, Ctx C → ∀ {A : Around}, AIn C A 100 → ∀ {H : AH} {sc : Addr} {ns : List Int}, H sc = some (.blist (ivs ns)) → ns.length ≤ 63 → PC C A (.call (.ref fa) ⟨[.ref sc], []⟩) H fun v _ => er v = .bool true
theorem er_ints : ∀ {vs : List Value} {ns : List Int}, IntsAre vs ns → vs.map er = ivs ns
  | vs, [], h => by rw [IntsAre.nil_inv h]; rfl
  | vs, n :: ns, h => by
    obtain ⟨t, vs', rfl, h'⟩ := IntsAre.cons_inv h
    rw [List.map_cons, er_ints h']; rfl
set_option maxHeartbeats 400000 in
theorem lawOk : LawIs 151 := by
  intro C X A hA H sc ns hsc hns
  have hA : AIn C A (99 + 1) := hA
  refine PC.fnP (Q := fun v _ => v = .bool true) (body := fBody lawS) [("script", .ref sc)] X.O hA (X.look rfl) (by walk_at "kk") (by kernel_rfl) rfl rfl rfl rfl rfl rfl rfl rfl rfl ?_
  intro L f A' O' FS hA' hF
  have X' := X.push L
  have FS' : Frame f (fNames lawS) := FS.cast (by kernel_rfl)
  clear FS
  with_reducible refine SWp.go (lawAll X' hA' FS' hsc ?_ hns ?_)
  · simp only [locB, List.map_cons, List.map_nil, List.foldl_cons, List.foldl_nil]
    walk_at "wloc"
  · intro u L' H' eu
    exact eu
set_option maxHeartbeats 4000000 in
set_option tactic.hygienic true in
theorem end07 (law : LawIs 151) : PySem.Challenge.rw_dm0133_07.Holds := hd07 (by
  intro w s₀ s₁ mg mb G Y fa o pm cd doc dV kV ho hd hcd hD hmg hg args vals as hpre hlay hrd hwl hlo
  have KX := kIn_of Y
  refine Ground.open G ?_
  intro T B D TE TW
  clear ho hd hcd hD
  wrow_args hpre hlay hrd hwl hlo
  rename_i ns _ _ _ _ _ _ _ sc vs _ hL _ _ _ hI _ hc _
  have hns : s₁.heap.Ns mainGlobals (mgOf (hd07.heap_1 w.params)) := ⟨_, _, _, KX _ _ rfl, rfl, strKeys_of rfl, fun _ => rfl⟩
  have hfa : fa = 151 := by
    have h1 := congrFun (ns_same T.g hns) "law"
    have h2 : mg "law" = some (.ref fa) := hmg
    rw [h2] at h1
    have h3 : mgOf (hd07.heap_1 w.params) "law" = some (.ref 151) := by kernel_rfl
    rw [h3] at h1
    cases h1; rfl
  subst hfa
  let C : Cx := { prog := PySem.Challenge.rw_dm0133_07.row.prog, w := w, h₀ := s₁.heap, K := hd07.heap_1 w.params, mg := mgOf (hd07.heap_1 w.params), mb := mb, pin := ⟨_, KX mainGlobals _ rfl⟩, fr := [] }
  have X : Ctx C := ⟨⟨KX, hns, T.b, T.nolimit, T.builtins⟩, rfl, rfl⟩
  have hA : AIn C callerA 100 := ⟨rfl, by decide, by decide, [], rfl, fun _ h => by cases h⟩
  let H : AH := fun b => if b = sc then some (.blist (ivs ns)) else none
  have hH : H sc = some (.blist (ivs ns)) := if_pos rfl
  have hHo : ∀ b o, H b = some o → b = sc ∧ o = .blist (ivs ns) := fun b o e => by
    by_cases q : b = sc
    · subst q; rw [hH] at e; cases e; exact ⟨rfl, rfl⟩
    · have : H b = none := if_neg q
      rw [this] at e; cases e
  have R : Rel C H s₁ := by
    refine ⟨fun _ _ e => e, fun b o e => ?_, fun b o e => ?_, fun b c d fs sl e => ?_, fun _ h => by cases h⟩
    · obtain ⟨rfl, rfl⟩ := hHo b o e
      exact ⟨_, hL, by rw [← er_ints hI]⟩
    · obtain ⟨rfl, rfl⟩ := hHo b o e
      exact .inr ⟨_, rfl⟩
    · have := (hHo b _ e).2
      cases this
  refine wpAny_mono (PC.call (law X hA hH (by omega)) s₁ R) ?_ (fun _ _ h => h)
  rintro v s' ⟨H', R', _, st, e⟩
  cases er_bool e
  refine GoodW.toG ⟨.inl ⟨_, .bool true, [], rfl, fun _ => rfl, .bool true, by kernel_rfl, fun _ => ⟨List.nodup_nil, fun a h => by cases h⟩⟩, R'.keep, st.os, st.gens.trans hg⟩)
end Mine
theorem PySem.Challenge.cw_dm0133_07_holds : PySem.Challenge.rw_dm0133_07.Holds :=
  Mine.end07 Mine.lawOk
