import PyProof.Rows.All
import Wide.All
import OpenK.AllK
import Wide.FinOn
import Lean
import PySem.Challenge.RW_xt0002_01
set_option Elab.async false
set_option maxRecDepth 100000
set_option linter.unusedVariables false
set_option linter.unusedSimpArgs false
section
open PySem PySem.Spec PySem.Calls PyProof.Rows PySem.W
namespace Mine

inductive D where
  | none
  | bool (b : Bool)
  | int (i : Int)
  | str (s : Str)
  | bytes (b : Array UInt8)
  | tup (ds : List D)
  | list (ds : List D)
  | dict (ks : List (Str × D))

noncomputable abbrev Look := Addr → Option Obj
noncomputable def IsL (o : Obj) (vs : List Value) : Prop := ∃ n, o = { cls := .type "list", data := .seq vs.toArray n }
noncomputable def IsT (o : Obj) (vs : List Value) : Prop := ∃ n, o = { cls := .type "tuple", data := .seq vs.toArray n }

variable (p : Program) (w : World)
noncomputable def IsK (a : Addr) (o : Obj) (kvs : List (Str × Value)) : Prop := a ≠ sysModules ∧ o.IsDictOf (strKind p w) kvs
mutual
noncomputable def Rd (g : Look) : D → Value → Prop
  | .none, v => v = .none
  | .bool b, v => v = .bool b
  | .int i, v => ∃ t, v = .int i t
  | .str x, v => ∃ t, v = .str x t
  | .bytes b, v => ∃ t, v = .bytes b t
  | .tup ds, v => ∃ a o vs, v = .ref a ∧ g a = some o ∧ IsT o vs ∧ RdL g ds vs
  | .list ds, v => ∃ a o vs, v = .ref a ∧ g a = some o ∧ IsL o vs ∧ RdL g ds vs
  | .dict ks, v => ∃ a o kvs, v = .ref a ∧ g a = some o ∧ IsK p w a o kvs ∧ RdK g ks kvs
noncomputable def RdL (g : Look) : List D → List Value → Prop
  | [], vs => vs = []
  | d :: ds, vs => ∃ v vs', vs = v :: vs' ∧ Rd g d v ∧ RdL g ds vs'
noncomputable def RdK (g : Look) : List (Str × D) → List (Str × Value) → Prop
  | [], kvs => kvs = []
  | (k, d) :: ks, kvs => ∃ v kvs', kvs = (k, v) :: kvs' ∧ Rd g d v ∧ RdK g ks kvs'
end

/-- what a lookup keeps of another: objects that bear a class -/
noncomputable def Sub (g g' : Look) : Prop := ∀ a o, g a = some o → o.cls ≠ .none → g' a = some o
theorem Sub.trans {g g' g'' : Look} (x : Sub g g') (y : Sub g' g'') : Sub g g'' := fun a o e c => y a o (x a o e c) c

theorem IsT.cls {o : Obj} {vs} (h : IsT o vs) : o.cls ≠ .none := by obtain ⟨n, rfl⟩ := h; intro e; cases e
theorem IsL.cls {o : Obj} {vs} (h : IsL o vs) : o.cls ≠ .none := by obtain ⟨n, rfl⟩ := h; intro e; cases e

variable {p w}
theorem isDict_cls {a : Addr} {o : Obj} {kvs : List (Str × Value)} (h : IsK p w a o kvs) : o.cls ≠ .none := by
  obtain ⟨_, es, ep, hx, _⟩ := h
  rw [hx.1]; intro e; cases e

mutual
theorem Rd.mono {g g' : Look} (hs : Sub g g') : ∀ (d : D) {v : Value}, Rd p w g d v → Rd p w g' d v
  | .none, _, h => by simpa only [Rd] using h
  | .bool _, _, h => by simpa only [Rd] using h
  | .int _, _, h => by simpa only [Rd] using h
  | .str _, _, h => by simpa only [Rd] using h
  | .bytes _, _, h => by simpa only [Rd] using h
  | .tup ds, v, h => by
    simp only [Rd] at h ⊢
    obtain ⟨a, o, vs, e, ho, hT, hl⟩ := h
    exact ⟨a, o, vs, e, hs a o ho hT.cls, hT, RdL.mono hs ds hl⟩
  | .list ds, v, h => by
    simp only [Rd] at h ⊢
    obtain ⟨a, o, vs, e, ho, hT, hl⟩ := h
    exact ⟨a, o, vs, e, hs a o ho hT.cls, hT, RdL.mono hs ds hl⟩
  | .dict ks, v, h => by
    simp only [Rd] at h ⊢
    obtain ⟨a, o, vs, e, ho, hT, hl⟩ := h
    exact ⟨a, o, vs, e, hs a o ho (isDict_cls hT), hT, RdK.mono hs ks hl⟩
theorem RdL.mono {g g' : Look} (hs : Sub g g') : ∀ (ds : List D) {vs : List Value}, RdL p w g ds vs → RdL p w g' ds vs
  | [], _, h => by simpa only [RdL] using h
  | d :: ds, vs, h => by
    simp only [RdL] at h ⊢
    obtain ⟨v, vs', e, h1, h2⟩ := h
    exact ⟨v, vs', e, Rd.mono hs d h1, RdL.mono hs ds h2⟩
theorem RdK.mono {g g' : Look} (hs : Sub g g') : ∀ (ks : List (Str × D)) {kvs : List (Str × Value)}, RdK p w g ks kvs → RdK p w g' ks kvs
  | [], _, h => by simpa only [RdK] using h
  | (k, d) :: ks, vs, h => by
    simp only [RdK] at h ⊢
    obtain ⟨v, vs', e, h1, h2⟩ := h
    exact ⟨v, vs', e, Rd.mono hs d h1, RdK.mono hs ks h2⟩
end

noncomputable def exc (h : Heap) (O : List Addr) : Look := fun a => if a ∈ O then none else h.get? a
theorem exc_of {h : Heap} {O : List Addr} {a : Addr} {o : Obj} (ha : a ∉ O) (e : h.get? a = some o) : exc h O a = some o := by rw [exc, if_neg ha]; exact e
theorem exc_get {h : Heap} {O : List Addr} {a : Addr} {o : Obj} (e : exc h O a = some o) : a ∉ O ∧ h.get? a = some o := by
  unfold exc at e; split at e
  · cases e
  · exact ⟨‹_›, e⟩
theorem exc_sub {h : Heap} {O O' : List Addr} (hs : ∀ a ∈ O', a ∈ O) : Sub (exc h O) (exc h O') := fun a o e _ => by
  obtain ⟨h1, h2⟩ := exc_get e
  exact exc_of (fun hm => h1 (hs a hm)) h2

/-- the two code tables (of __len__, of __str__) on which generator expressions write -/
noncomputable abbrev tA : Addr := 87
noncomputable abbrev tB : Addr := 94
noncomputable def Grows (g : Look) (h : Heap) (t : Addr) : Prop :=
  ∀ ps : Array Value, g t = some (PySem.W.X.tableObj ps) → TriplesOk ps.toList → ∃ more, h.get? t = some (PySem.W.X.tableObj (ps ++ more)) ∧ TriplesOk (ps ++ more).toList
structure KpL (g : Look) (h : Heap) : Prop where
  get : ∀ b o, b ≠ tA → b ≠ tB → g b = some o → h.get? b = some o
  ta : Grows g h tA
  tb : Grows g h tB
noncomputable abbrev Kp (h h' : Heap) : Prop := KpL h.get? h'
theorem Grows.trans {g : Look} {h h' : Heap} {t : Addr} (x : Grows g h t) (y : Grows h.get? h' t) : Grows g h' t := fun ps e q => by
  obtain ⟨m, e1, q1⟩ := x ps e q
  obtain ⟨m', e2, q2⟩ := y _ e1 q1
  rw [Array.append_assoc] at e2 q2
  exact ⟨m ++ m', e2, q2⟩
theorem KpL.trans {g : Look} {h h' : Heap} (x : KpL g h) (y : Kp h h') : KpL g h' :=
  ⟨fun b o h1 h2 e => y.get b o h1 h2 (x.get b o h1 h2 e), x.ta.trans y.ta, x.tb.trans y.tb⟩
theorem Grows.keep {h h' : Heap} {t : Addr} (k : ∀ b o, h.get? b = some o → h'.get? b = some o) : Grows h.get? h' t :=
  fun ps e q => ⟨#[], by rw [Array.append_empty]; exact k _ _ e, by rw [Array.append_empty]; exact q⟩
theorem Kp.of {h h' : Heap} (k : ∀ b o, h.get? b = some o → h'.get? b = some o) : Kp h h' := ⟨fun b o _ _ e => k b o e, .keep k, .keep k⟩
theorem Kp.refl (h : Heap) : Kp h h := .of fun _ _ e => e
theorem Kp.push (h : Heap) (o : Obj) : Kp h (h.push o) := .of fun _ _ e => Heap.get?_push_of_some _ e
theorem Kp.fresh {h h' : Heap} (k : Heap.ExtBut h.objs.size h h') : Kp h h' := .of fun b o e => k b o (Nat.ne_of_lt (Heap.lt_size e)) e


/-- what the written part of the heap bears (shown of the real one at the end) -/
structure KOk (p : Program) (w : World) (K : Frag) : Prop where
  off : ∀ a o, K.lookup a = some o → a ≠ tA ∧ a ≠ tB
  low : ∀ a o, K.lookup a = some o → a < 195
  top : ∃ o, K.lookup 194 = some o
structure Wd (p : Program) (w : World) (K : Frag) (h : Heap) : Prop where
  kok : KOk p w K
  kin : K.In h
  lim : h.NoLimit
  g : ∃ mg, h.Ns mainGlobals mg
  b : ∃ mb, h.Ns builtinsNs mb ∧ ∀ x : Str, x ≠ "__name__" → mb x = bootBuiltins x
  ta : ∃ ps, h.get? tA = some (PySem.W.X.tableObj ps) ∧ TriplesOk ps.toList
  tb : ∃ ps, h.get? tB = some (PySem.W.X.tableObj ps) ∧ TriplesOk ps.toList
  bm : ∃ mg bm ob, bm < 195 ∧ BMod h mainGlobals mg bm ob
variable {K : Frag}
theorem Wd.off {h : Heap} (W : Wd p w K h) {a : Addr} {o : Obj} (e : h.get? a = some o) (hn : ∀ ps, o ≠ PySem.W.X.tableObj ps) : a ≠ tA ∧ a ≠ tB := by
  obtain ⟨ps, h1, _⟩ := W.ta
  obtain ⟨qs, h2, _⟩ := W.tb
  exact ⟨fun q => by subst q; rw [h1] at e; cases e; exact hn ps rfl, fun q => by subst q; rw [h2] at e; cases e; exact hn qs rfl⟩
theorem not_tab_cls {o : Obj} (h : o.cls ≠ .none) (ps : Array Value) : o ≠ PySem.W.X.tableObj ps := fun e => h (by rw [e]; rfl)
theorem not_tab_dict {o : Obj} {es ep} (h : o.data = .dict es ep) (ps : Array Value) : o ≠ PySem.W.X.tableObj ps := fun e => by rw [e] at h; cases h
theorem not_tab_cell {o : Obj} {v} (h : o.data = .cell v) (ps : Array Value) : o ≠ PySem.W.X.tableObj ps := fun e => by rw [e] at h; cases h
theorem Wd.keeps {h h' : Heap} (W : Wd p w K h) (k : Kp h h') {a : Addr} {o : Obj} (e : h.get? a = some o) (hn : ∀ ps, o ≠ PySem.W.X.tableObj ps) : h'.get? a = some o :=
  k.get a o (W.off e hn).1 (W.off e hn).2 e
theorem Wd.ns {h h' : Heap} (W : Wd p w K h) (k : Kp h h') {a : Addr} {m} (e : h.Ns a m) : h'.Ns a m :=
  let ⟨o, es, ep, ho, hd, r⟩ := e; ⟨o, es, ep, W.keeps k ho (not_tab_dict hd), hd, r⟩
theorem Wd.cell {h h' : Heap} (W : Wd p w K h) (k : Kp h h') {a : Addr} {v} (e : h.IsCell a v) : h'.IsCell a v :=
  let ⟨o, ho, hd⟩ := e; ⟨o, W.keeps k ho (not_tab_cell hd), hd⟩
theorem Wd.sub {h h' : Heap} (W : Wd p w K h) (k : Kp h h') (O : List Addr) : Sub (exc h O) (exc h' O) := fun a o e c => by
  obtain ⟨h1, h2⟩ := exc_get e
  exact exc_of h1 (W.keeps k h2 (not_tab_cls c))
theorem Wd.kp {h h' : Heap} (W : Wd p w K h) (k : Kp h h') : Wd p w K h' where
  kok := W.kok
  kin := fun a o e => k.get a o (W.kok.off a o e).1 (W.kok.off a o e).2 (W.kin a o e)
  lim := let ⟨mc, n, e⟩ := W.lim; ⟨mc, W.ns k n, e⟩
  g := let ⟨mg, n⟩ := W.g; ⟨mg, W.ns k n⟩
  b := let ⟨mg, n, r⟩ := W.b; ⟨mg, W.ns k n, r⟩
  ta := let ⟨ps, e, q⟩ := W.ta; let ⟨m, e', q'⟩ := k.ta ps e q; ⟨_, e', q'⟩
  tb := let ⟨ps, e, q⟩ := W.tb; let ⟨m, e', q'⟩ := k.tb ps e q; ⟨_, e', q'⟩
  bm := let ⟨mg, bm, ob, q, x⟩ := W.bm; ⟨mg, bm, ob, q, W.ns k x.ns, x.name, x.ne, W.keeps k x.obj (not_tab_cls (by rw [x.cls]; intro e; cases e)), x.cls, x.dict, x.data⟩

/-- what a pure step leaves: everything kept -/
structure Sh (s s' : Shared) : Prop where
  kp : Kp s.heap s'.heap
  os : s'.os = s.os
  gens : AllBare s.gens → AllBare s'.gens
theorem Sh.refl (s : Shared) : Sh s s := ⟨.refl _, rfl, id⟩
theorem Sh.trans {s s' s'' : Shared} (x : Sh s s') (y : Sh s' s'') : Sh s s'' := ⟨x.kp.trans y.kp, y.os.trans x.os, fun h => y.gens (x.gens h)⟩
theorem Sh.tok (s : Shared) (t : Nat) : Sh s { s with toks := t } := ⟨.refl _, rfl, id⟩
theorem Sh.mk' {s : Shared} {h' : Heap} {t : Nat} (k : Kp s.heap h') : Sh s { s with heap := h', toks := t } := ⟨k, rfl, id⟩
theorem Sh.mkh {s : Shared} {h' : Heap} (k : Kp s.heap h') : Sh s { s with heap := h' } := ⟨k, rfl, id⟩

/-- the room for calls -/
structure Ok (n : Nat) (A : Around) : Prop where
  hand : A.handled = none
  depth : A.depth + n ≤ 900
  units : A.units + 10 * n ≤ 9000
theorem Ok.deeper {n : Nat} {A : Around} (h : Ok (n + 1) A) (env : Env) : Ok n (A.deeper env) :=
  ⟨h.hand, by have := h.depth; simp only [Around.deeper]; omega, by have := h.units; simp only [Around.deeper]; omega⟩
theorem Ok.room {n : Nat} {A : Around} (h : Ok n A) : A.depth < recursionLimit := by have := h.depth; simp only [recursionLimit]; omega
theorem Ok.cline {n : Nat} {A : Around} (h : Ok n A) : A.units < cLine := by have := h.units; simp only [cLine]; omega

inductive Ent where
  | val (d : D)
  | lst (a : Addr) (ds : List D)
  | dct (a : Addr) (ks : List (Str × D))
  | pil (a dx : Addr) (first : Int) (ds : List D)
noncomputable abbrev Store := List (Str × Ent)
noncomputable def Ent.own : Ent → List Addr
  | .val _ => []
  | .lst a _ => [a]
  | .dct a _ => [a]
  | .pil a dx _ _ => [a, dx]
noncomputable def owned (σ : Store) : List Addr := σ.flatMap fun x => x.2.own

noncomputable abbrev accCls : Addr := 125
/-- the pile: one of _Accumulator, its dict with the first size -/
noncomputable def SzObj (first : Int) (od : Obj) : Prop := ∃ hs t t' k, od = { cls := .type "dict", data := .dict #[{ hash := hs, key := .str "_initial_size" t', val := .int first t }] k }
theorem SzObj.cls {first : Int} {od : Obj} (h : SzObj first od) : od.cls ≠ .none := by obtain ⟨_, _, _, _, rfl⟩ := h; intro e; cases e
noncomputable def PilAt (h : Heap) (a dx : Addr) (first : Int) (vs : List Value) : Prop :=
  (∃ n, h.get? a = some { cls := .ref accCls, dict := some dx, data := .seq vs.toArray n }) ∧ ∃ od, h.get? dx = some od ∧ SzObj first od

noncomputable def ER (p : Program) (w : World) (h : Heap) (O : List Addr) (v : Value) : Ent → Prop
  | .val d => Rd p w (exc h O) d v
  | .lst a ds => v = .ref a ∧ a ∈ O ∧ ∃ o vs, h.get? a = some o ∧ IsL o vs ∧ RdL p w (exc h O) ds vs
  | .dct a ks => v = .ref a ∧ a ∈ O ∧ ∃ o kvs, h.get? a = some o ∧ IsK p w a o kvs ∧ RdK p w (exc h O) ks kvs
  | .pil a dx f ds => v = .ref a ∧ a ∈ O ∧ dx ∈ O ∧ ∃ vs, PilAt h a dx f vs ∧ RdL p w (exc h O) ds vs

noncomputable def okName (x : Str) : Bool := !(x == ("__debug__" : Str)) && !(x == ("__classdict__" : Str))
noncomputable def Bnd (env : Env) (h : Heap) (x : Str) (v : Value) : Prop :=
  okName x = true ∧ ((env.kindOf x = some .local ∧ ∃ m, h.Ns env.locals m ∧ m x = some v) ∨
    ((env.kindOf x = some .cell ∨ env.kindOf x = some .free) ∧ ∃ c, env.cells.lookup x = some c ∧ h.IsCell c (some v)))

structure StO (p : Program) (w : World) (K : Frag) (O : List Addr) (s : Shared) : Prop where
  wd : Wd p w K s.heap
  bd : ∀ a ∈ O, a ≠ tA ∧ a ≠ tB ∧ ∃ o, s.heap.get? a = some o
structure StE (p : Program) (w : World) (K : Frag) (O : List Addr) (env : Env) (σ : Store) (s : Shared) : Prop extends StO p w K O s where
  kind : env.scope.kind = .function
  glob : env.globals = mainGlobals
  bi : env.builtins = builtinsNs
  vars : ∀ x e, σ.lookup x = some e → ∃ v, Bnd env s.heap x v ∧ ER p w s.heap O v e

theorem StO.sh {O : List Addr} {s s' : Shared} (x : StO p w K O s) (y : Sh s s') : StO p w K O s' :=
  ⟨x.wd.kp y.kp, fun a ha => let ⟨h1, h2, o, ho⟩ := x.bd a ha; ⟨h1, h2, o, y.kp.get a o h1 h2 ho⟩⟩
theorem StO.fresh {O : List Addr} {s : Shared} (x : StO p w K O s) : s.heap.objs.size ∉ O := fun hm => by
  obtain ⟨_, _, o, ho⟩ := x.bd _ hm
  exact Nat.lt_irrefl _ (Heap.lt_size ho)
theorem StO.rd {O : List Addr} {s s' : Shared} (x : StO p w K O s) (y : Sh s s') {d : D} {v : Value} (h : Rd p w (exc s.heap O) d v) : Rd p w (exc s'.heap O) d v := h.mono (x.wd.sub y.kp O) d
theorem StO.rdl {O : List Addr} {s s' : Shared} (x : StO p w K O s) (y : Sh s s') {ds : List D} {vs : List Value} (h : RdL p w (exc s.heap O) ds vs) : RdL p w (exc s'.heap O) ds vs := h.mono (x.wd.sub y.kp O) ds
theorem Bnd.kp {env : Env} {h h' : Heap} {x : Str} {v : Value} (b : Bnd env h x v) (W : Wd p w K h) (k : Kp h h') : Bnd env h' x v :=
  ⟨b.1, b.2.imp (fun ⟨a, m, n, e⟩ => ⟨a, m, W.ns k n, e⟩) fun ⟨a, c, l, e⟩ => ⟨a, c, l, W.cell k e⟩⟩
theorem ER.kp {h h' : Heap} {O : List Addr} {v : Value} (W : Wd p w K h) (k : Kp h h') : ∀ {e : Ent}, ER p w h O v e → ER p w h' O v e
  | .val d, x => Rd.mono (W.sub k O) d x
  | .lst a ds, ⟨e, m, o, vs, ho, hl, r⟩ => ⟨e, m, o, vs, W.keeps k ho (not_tab_cls hl.cls), hl, r.mono (W.sub k O)⟩
  | .dct a ks, ⟨e, m, o, vs, ho, hl, r⟩ => ⟨e, m, o, vs, W.keeps k ho (not_tab_cls (isDict_cls hl)), hl, r.mono (W.sub k O)⟩
  | .pil a dx f ds, ⟨e, m, m', vs, ⟨⟨n, ho⟩, od, hd, hc⟩, r⟩ =>
    ⟨e, m, m', vs, ⟨⟨n, W.keeps k ho (not_tab_cls (by intro e; cases e))⟩, od, W.keeps k hd (not_tab_cls hc.cls), hc⟩, r.mono (W.sub k O)⟩
theorem StE.sh {O : List Addr} {env : Env} {σ : Store} {s s' : Shared} (x : StE p w K O env σ s) (y : Sh s s') : StE p w K O env σ s' :=
  ⟨x.toStO.sh y, x.kind, x.glob, x.bi, fun n e q => let ⟨v, b, r⟩ := x.vars n e q; ⟨v, b.kp x.wd y.kp, r.kp x.wd y.kp⟩⟩

/-- the expression e tells the datum d -/
noncomputable def Ev (p : Program) (w : World) (K : Frag) (n : Nat) (env : Env) (σ : Store) (e : Expr) (d : D) : Prop :=
  ∀ (O : List Addr) (A : Around) (s : Shared) (Q : Value → Shared → Prop) (E : Value → Shared → Prop), Ok n A → StE p w K O env σ s →
    (∀ v s', Sh s s' → Rd p w (exc s'.heap O) d v → Q v s') → wpAny (model p w) A (eval e env) Q E s
noncomputable def EvB (p : Program) (w : World) (K : Frag) (n : Nat) (env : Env) (σ : Store) (e : Expr) (b : Bool) : Prop :=
  ∀ (O : List Addr) (A : Around) (s : Shared) (Q : Bool → Shared → Prop) (E : Value → Shared → Prop) (whole : Sem Value), Ok n A → StE p w K O env σ s → whole = eval e env →
    (∀ s', Sh s s' → Q b s') → wpAny (model p w) A (isTrue e env whole) Q E s
end Mine
end
section
open PySem PySem.Spec PySem.Calls PyProof.Rows PySem.W
namespace Mine
variable {p : Program} {w : World} {K : Frag} {n : Nat} {env : Env} {σ : Store}

/-- a value seen as a datum; the object itself may be one that is still turned -/
noncomputable def RdV (p : Program) (w : World) (h : Heap) (O : List Addr) : D → Value → Prop
  | .list ds, v => ∃ a o vs, v = .ref a ∧ h.get? a = some o ∧ IsL o vs ∧ RdL p w (exc h O) ds vs
  | .dict ks, v => ∃ a o kvs, v = .ref a ∧ h.get? a = some o ∧ IsK p w a o kvs ∧ RdK p w (exc h O) ks kvs
  | d, v => Rd p w (exc h O) d v
theorem Rd.v {h : Heap} {O : List Addr} : ∀ {d : D} {v : Value}, Rd p w (exc h O) d v → RdV p w h O d v
  | .none, _, x => x
  | .bool _, _, x => x
  | .int _, _, x => x
  | .str _, _, x => x
  | .bytes _, _, x => x
  | .tup _, _, x => x
  | .list ds, v, x => by
    simp only [Rd] at x
    obtain ⟨a, o, vs, e, ho, r⟩ := x
    exact ⟨a, o, vs, e, (exc_get ho).2, r⟩
  | .dict ks, v, x => by
    simp only [Rd] at x
    obtain ⟨a, o, vs, e, ho, r⟩ := x
    exact ⟨a, o, vs, e, (exc_get ho).2, r⟩
theorem RdV.sh {s s' : Shared} {O : List Addr} (W : Wd p w K s.heap) (y : Sh s s') : ∀ {d : D} {v : Value}, RdV p w s.heap O d v → RdV p w s'.heap O d v
  | .none, _, x => Rd.mono (W.sub y.kp O) _ x
  | .bool _, _, x => Rd.mono (W.sub y.kp O) _ x
  | .int _, _, x => Rd.mono (W.sub y.kp O) _ x
  | .str _, _, x => Rd.mono (W.sub y.kp O) _ x
  | .bytes _, _, x => Rd.mono (W.sub y.kp O) _ x
  | .tup _, _, x => Rd.mono (W.sub y.kp O) _ x
  | .list _, _, ⟨a, o, vs, e, ho, hl, r⟩ => ⟨a, o, vs, e, W.keeps y.kp ho (not_tab_cls hl.cls), hl, r.mono (W.sub y.kp O)⟩
  | .dict _, _, ⟨a, o, vs, e, ho, hl, r⟩ => ⟨a, o, vs, e, W.keeps y.kp ho (not_tab_cls (isDict_cls hl)), hl, r.mono (W.sub y.kp O)⟩

noncomputable def EvV (p : Program) (w : World) (K : Frag) (n : Nat) (env : Env) (σ : Store) (e : Expr) (d : D) : Prop :=
  ∀ (O : List Addr) (A : Around) (s : Shared) (Q : Value → Shared → Prop) (E : Value → Shared → Prop), Ok n A → StE p w K O env σ s →
    (∀ v s', Sh s s' → RdV p w s'.heap O d v → Q v s') → wpAny (model p w) A (eval e env) Q E s
theorem Ev.v {e : Expr} {d : D} (h : Ev p w K n env σ e d) : EvV p w K n env σ e d := fun O A s Q E ok st hQ => h O A s Q E ok st fun v s' y r => hQ v s' y r.v

noncomputable def Ent.view : Ent → Option D
  | .val d => some d
  | .lst _ ds => some (.list ds)
  | .dct _ ks => some (.dict ks)
  | .pil .. => none
theorem ER.view {h : Heap} {O : List Addr} {v : Value} {e : Ent} {d : D} (x : ER p w h O v e) (q : e.view = some d) : RdV p w h O d v := by
  cases e with
  | val d' => simp only [Ent.view, Option.some.injEq] at q; subst q; exact Rd.v x
  | lst a ds => simp only [Ent.view, Option.some.injEq] at q; subst q; obtain ⟨e1, _, o, vs, r⟩ := x; exact ⟨a, o, vs, e1, r⟩
  | dct a ds => simp only [Ent.view, Option.some.injEq] at q; subst q; obtain ⟨e1, _, o, vs, r⟩ := x; exact ⟨a, o, vs, e1, r⟩
  | pil a dx f ds => simp only [Ent.view] at q; cases q

theorem okName_1 {x : Str} (h : okName x = true) : (x == ("__debug__" : Str)) = false := by
  unfold okName at h; simp only [Bool.and_eq_true, Bool.not_eq_true'] at h; exact h.1
theorem okName_2 {x : Str} (h : okName x = true) : (x == ("__classdict__" : Str)) = false := by
  unfold okName at h; simp only [Bool.and_eq_true, Bool.not_eq_true'] at h; exact h.2

theorem loadBnd {M : Model} {A : Around} {s : Shared} {E : Value → Shared → Prop} {x : Str} {v : Value} {Q : Value → Shared → Prop} (hk : env.scope.kind = .function) (b : Bnd env s.heap x v) (h : Q v s) : wpAny M A (loadName env x) Q E s := by
  obtain ⟨ok, ⟨hl, m, hn, hm⟩ | ⟨hl | hl, c, hc, hi⟩⟩ := b
  · exact wpAny_loadName_local hk hl hn hm h
  · exact wpAny_loadName_cell hk hl hc hi h
  · exact wpAny_loadName_free hk hl hc hi h (okName_2 ok)
theorem evalBnd {M : Model} {A : Around} {s : Shared} {E : Value → Shared → Prop} {x : Str} {pos : Pos} {v : Value} {Q : Value → Shared → Prop} (hk : env.scope.kind = .function) (b : Bnd env s.heap x v) (h : Q v s) : wpAny M A (eval (.Name x pos) env) Q E s :=
  wpAny_Name (loadBnd hk b h) (okName_1 b.1)
theorem Ev.name {x : Str} {pos : Pos} {d : D} (h : σ.lookup x = some (.val d)) : Ev p w K n env σ (.Name x pos) d := fun O A s Q E ok st hQ => by
  obtain ⟨v, b, r⟩ := st.vars x _ h
  exact evalBnd st.kind b (hQ v s (.refl s) r)
theorem EvV.name {x : Str} {pos : Pos} {e : Ent} {d : D} (h : σ.lookup x = some e) (hd : e.view = some d) : EvV p w K n env σ (.Name x pos) d := fun O A s Q E ok st hQ => by
  obtain ⟨v, b, r⟩ := st.vars x _ h
  exact evalBnd st.kind b (hQ v s (.refl s) (r.view hd))

theorem Ev.int {i : Int} {k pos} : Ev p w K n env σ (.Constant (.int i) k pos) (.int i) := fun O A s Q E ok st hQ => wpAny_Constant_int (hQ _ _ (.tok s _) ⟨_, rfl⟩)
theorem Ev.str {x : Str} {k pos} : Ev p w K n env σ (.Constant (.str x) k pos) (.str x) := fun O A s Q E ok st hQ => Constant_str (hQ _ _ (.tok s _) ⟨_, rfl⟩)
theorem Ev.bytes {x : List UInt8} {k pos} : Ev p w K n env σ (.Constant (.bytes x) k pos) (.bytes x.toArray) := fun O A s Q E ok st hQ => Constant_bytes (hQ _ _ (.tok s _) ⟨_, rfl⟩)
theorem Ev.bool {b : Bool} {k pos} : Ev p w K n env σ (.Constant (.bool b) k pos) (.bool b) := fun O A s Q E ok st hQ => wpAny_Constant_bool (hQ _ _ (.refl s) rfl)
theorem Ev.cNone {k pos} : Ev p w K n env σ (.Constant .none k pos) .none := fun O A s Q E ok st hQ => wpAny_Constant_none (hQ _ _ (.refl s) rfl)

/-- two expressions, one after the other -/
theorem two {l r : Expr} {a b : D} (hl : EvV p w K n env σ l a) (hr : EvV p w K n env σ r b) {O : List Addr} {A : Around} {s : Shared} {E : Value → Shared → Prop} {R : Value → Value → Shared → Prop}
    (ok : Ok n A) (st : StE p w K O env σ s) (h : ∀ x y s', Sh s s' → StE p w K O env σ s' → RdV p w s'.heap O a x → RdV p w s'.heap O b y → R x y s') :
    wpAny (model p w) A (eval l env) (fun x s₁ => wpAny (model p w) A (eval r env) (fun y s₂ => R x y s₂) E s₁) E s :=
  hl O A s _ E ok st fun x s₁ y₁ r₁ => hr O A s₁ _ E ok (st.sh y₁) fun y s₂ y₂ r₂ => h x y s₂ (y₁.trans y₂) (st.sh (y₁.trans y₂)) (r₁.sh (st.sh y₁).wd y₂) r₂

noncomputable def BinOk (p : Program) (w : World) (K : Frag) (n : Nat) (op : Operator) (a b c : D) : Prop :=
  ∀ (O : List Addr) (A : Around) (s : Shared) (x y : Value) (Q : Value → Shared → Prop) (E : Value → Shared → Prop), Ok n A → StO p w K O s → RdV p w s.heap O a x → RdV p w s.heap O b y →
    (∀ v s', Sh s s' → Rd p w (exc s'.heap O) c v → Q v s') → wpAny (model p w) A (binaryOp op x y) Q E s
theorem Ev.bin {l r : Expr} {op : Operator} {pos : Pos} {a b c : D} (hl : EvV p w K n env σ l a) (hr : EvV p w K n env σ r b) (h : BinOk p w K n op a b c) : Ev p w K n env σ (.BinOp l op r pos) c :=
  fun O A s Q E ok st hQ => wpAny_BinOp (two hl hr ok st fun x y s' y₁ st' rx ry => h O A s' x y Q E ok st'.toStO rx ry fun v s'' y₂ r => hQ v s'' (y₁.trans y₂) r)

theorem BinOk.addI {a b : Int} : BinOk p w K n .Add (.int a) (.int b) (.int (a + b)) := by
  rintro O A s _ _ Q E ok st ⟨t, rfl⟩ ⟨u, rfl⟩ hQ
  exact add_int (hQ _ _ (.tok s _) ⟨_, rfl⟩)
theorem BinOk.subI {a b : Int} : BinOk p w K n .Sub (.int a) (.int b) (.int (a - b)) := by
  rintro O A s _ _ Q E ok st ⟨t, rfl⟩ ⟨u, rfl⟩ hQ
  exact sub_int (hQ _ _ (.tok s _) ⟨_, rfl⟩)
theorem BinOk.mulI {a b : Int} (h : IntMulOk a b) : BinOk p w K n .Mult (.int a) (.int b) (.int (a * b)) := by
  rintro O A s _ _ Q E ok st ⟨t, rfl⟩ ⟨u, rfl⟩ hQ
  exact mul_int (hQ _ _ (.tok s _) ⟨_, rfl⟩) h
theorem BinOk.fdivI {a b : Int} (h : b ≠ 0) (hs : b.natAbs < 1073741824) : BinOk p w K n .FloorDiv (.int a) (.int b) (.int (a.fdiv b)) := by
  rintro O A s _ _ Q E ok st ⟨t, rfl⟩ ⟨u, rfl⟩ hQ
  exact floordiv_int h (hQ _ _ (.tok s _) ⟨_, rfl⟩) (.inl (PyProof.noPylong_small hs))
theorem BinOk.fdivL {a b : Int} (h : b ≠ 0) (hs : b.natAbs.log2 < 9000) : BinOk p w K n .FloorDiv (.int a) (.int b) (.int (a.fdiv b)) := by
  rintro O A s _ _ Q E ok st ⟨t, rfl⟩ ⟨u, rfl⟩ hQ
  exact floordiv_int h (hQ _ _ (.tok s _) ⟨_, rfl⟩) (.inl (PyProof.noPylong_of_log2 hs))
theorem BinOk.modI {a b : Int} (h : b ≠ 0) : BinOk p w K n .Mod (.int a) (.int b) (.int (a.fmod b)) := by
  rintro O A s _ _ Q E ok st ⟨t, rfl⟩ ⟨u, rfl⟩ hQ
  exact mod_int' h (hQ _ _ (.tok s _) ⟨_, rfl⟩)
theorem BinOk.powI {a b : Int} (h : 0 ≤ b) (hsz : (Builtin.Int.intBits a : Int) * b ≤ 2 ^ 27) : BinOk p w K n .Pow (.int a) (.int b) (.int (a ^ b.toNat)) := by
  rintro O A s _ _ Q E ok st ⟨t, rfl⟩ ⟨u, rfl⟩ hQ
  exact pow_int h hsz (hQ _ _ (.tok s _) ⟨_, rfl⟩)
theorem BinOk.andI {a b : Int} : BinOk p w K n .BitAnd (.int a) (.int b) (.int (Builtin.bitAnd a b)) := by
  rintro O A s _ _ Q E ok st ⟨t, rfl⟩ ⟨u, rfl⟩ hQ
  exact and_int (hQ _ _ (.tok s _) ⟨_, rfl⟩)
theorem BinOk.addS {a b : Str} (h : a.length + b.length ≤ sizeLine) : BinOk p w K n .Add (.str a) (.str b) (.str (a ++ b)) := by
  rintro O A s _ _ Q E ok st ⟨t, rfl⟩ ⟨u, rfl⟩ hQ
  exact add_str (fun t' tk => hQ _ _ (.tok s _) ⟨_, rfl⟩) h
theorem BinOk.addB {a b : Array UInt8} (h : a.size + b.size ≤ 16777216) : BinOk p w K n .Add (.bytes a) (.bytes b) (.bytes (a ++ b)) := by
  rintro O A s _ _ Q E ok st ⟨t, rfl⟩ ⟨u, rfl⟩ hQ
  exact KBy.add_bytes h (fun t' tk => hQ _ _ (.tok s _) ⟨_, rfl⟩)

noncomputable def CmpOk (p : Program) (w : World) (K : Frag) (n : Nat) (op : CmpOp) (a b : D) (c : Bool) : Prop :=
  ∀ (O : List Addr) (A : Around) (s : Shared) (x y : Value) (Q : Value → Shared → Prop) (E : Value → Shared → Prop), Ok n A → StO p w K O s → RdV p w s.heap O a x → RdV p w s.heap O b y →
    (∀ s', Sh s s' → Q (.bool c) s') → wpAny (model p w) A (compareOp op x y) Q E s
theorem Ev.cmp {l r : Expr} {op : CmpOp} {pos : Pos} {a b : D} {c : Bool} (hl : EvV p w K n env σ l a) (hr : EvV p w K n env σ r b) (h : CmpOk p w K n op a b c) (hm : behindInMarks op r = false) :
    Ev p w K n env σ (.Compare l [op] [r] pos) (.bool c) :=
  fun O A s Q E ok st hQ => wpAny_Compare1 (two hl hr ok st fun x y s' y₁ st' rx ry => h O A s' x y Q E ok st'.toStO rx ry fun s'' y₂ => hQ _ s'' (y₁.trans y₂) rfl) hm
theorem EvB.cmp {l r : Expr} {op : CmpOp} {pos : Pos} {a b : D} {c : Bool} (hl : EvV p w K n env σ l a) (hr : EvV p w K n env σ r b) (h : CmpOk p w K n op a b c) (hm : behindInMarks op r = false) :
    EvB p w K n env σ (.Compare l [op] [r] pos) c :=
  fun O A s Q E whole ok st _ hQ => wpAny_isTrue_Compare1 (two hl hr ok st fun x y s' y₁ st' rx ry => h O A s' x y _ E ok st'.toStO rx ry fun s'' y₂ => wpAny_truthy_bool (hQ s'' (y₁.trans y₂))) hm

theorem CmpOk.eqI {a b : Int} : CmpOk p w K n .Eq (.int a) (.int b) (a == b) := by
  rintro O A s _ _ Q E ok st ⟨t, rfl⟩ ⟨u, rfl⟩ hQ
  exact eq_int (hQ _ (.refl s))
theorem CmpOk.neI {a b : Int} : CmpOk p w K n .NotEq (.int a) (.int b) (a != b) := by
  rintro O A s _ _ Q E ok st ⟨t, rfl⟩ ⟨u, rfl⟩ hQ
  exact ne_int (hQ _ (.refl s))
theorem CmpOk.ltI {a b : Int} : CmpOk p w K n .Lt (.int a) (.int b) (decide (a < b)) := by
  rintro O A s _ _ Q E ok st ⟨t, rfl⟩ ⟨u, rfl⟩ hQ
  exact lt_int (hQ _ (.refl s))
theorem CmpOk.gtI {a b : Int} : CmpOk p w K n .Gt (.int a) (.int b) (decide (b < a)) := by
  rintro O A s _ _ Q E ok st ⟨t, rfl⟩ ⟨u, rfl⟩ hQ
  exact gt_int (hQ _ (.refl s))
theorem CmpOk.eqS {a b : Str} : CmpOk p w K n .Eq (.str a) (.str b) (a == b) := by
  rintro O A s _ _ Q E ok st ⟨t, rfl⟩ ⟨u, rfl⟩ hQ
  exact eq_str (hQ _ (.refl s))
theorem CmpOk.neS {a b : Str} : CmpOk p w K n .NotEq (.str a) (.str b) (a != b) := by
  rintro O A s _ _ Q E ok st ⟨t, rfl⟩ ⟨u, rfl⟩ hQ
  exact ne_str (hQ _ (.refl s))
theorem CmpOk.neB {a b : Bool} : CmpOk p w K n .NotEq (.bool a) (.bool b) (a != b) := by
  rintro O A s _ _ Q E ok st rfl rfl hQ
  exact ne_bool (hQ _ (.refl s))
theorem CmpOk.eqY {a b : Array UInt8} : CmpOk p w K n .Eq (.bytes a) (.bytes b) (a.toList == b.toList) := by
  rintro O A s _ _ Q E ok st ⟨t, rfl⟩ ⟨u, rfl⟩ hQ
  exact eq_bytes (hQ _ (.refl s))
/-- x in y, of texts -/
noncomputable def strIn (y x : Str) : Bool := !(Builtin.Str.occurrences x y 0 x.length 1).isEmpty
theorem CmpOk.inS {a b : Str} : CmpOk p w K n .In (.str a) (.str b) (strIn a b) := by
  rintro O A s _ _ Q E ok st ⟨t, rfl⟩ ⟨u, rfl⟩ hQ
  exact in_str (hQ _ (.refl s))
theorem CmpOk.notInS {a b : Str} : CmpOk p w K n .NotIn (.str a) (.str b) (!strIn a b) := by
  rintro O A s _ _ Q E ok st ⟨t, rfl⟩ ⟨u, rfl⟩ hQ
  exact notIn_str (hQ _ (.refl s))
theorem CmpOk.isB {a b : Bool} : CmpOk p w K n .Is (.bool a) (.bool b) (a == b) := by
  rintro O A s _ _ Q E ok st rfl rfl hQ
  refine wpAny_is_plain rfl ?_
  rw [show (Value.bool a == Value.bool b) = (a == b) from by cases a <;> cases b <;> rfl]
  exact hQ _ (.refl s)
theorem CmpOk.isNotB {a b : Bool} : CmpOk p w K n .IsNot (.bool a) (.bool b) (a != b) := by
  rintro O A s _ _ Q E ok st rfl rfl hQ
  refine wpAny_isNot_plain rfl ?_
  rw [show (!(Value.bool a == Value.bool b)) = (a != b) from by cases a <;> cases b <;> rfl]
  exact hQ _ (.refl s)
theorem CmpOk.isNotN : CmpOk p w K n .IsNot .none .none false := by
  rintro O A s _ _ Q E ok st rfl rfl hQ
  exact wpAny_isNot_self rfl (hQ _ (.refl s))

theorem RdL.length {g : Look} : ∀ {ds : List D} {vs : List Value}, RdL p w g ds vs → ds.length = vs.length
  | [], vs, h => by simp only [RdL] at h; subst h; rfl
  | d :: ds, vs, h => by
    simp only [RdL] at h
    obtain ⟨v, vs', rfl, _, h2⟩ := h
    rw [List.length_cons, List.length_cons, RdL.length h2]
/-- the places -/
theorem RdL.get {g : Look} : ∀ {ds : List D} {vs : List Value} {i : Nat} {d : D}, RdL p w g ds vs → ds[i]? = some d → ∃ v, vs[i]? = some v ∧ Rd p w g d v
  | [], _, _, _, _, e => by simp at e
  | d :: ds, vs, 0, _, h, e => by
    simp only [RdL] at h
    obtain ⟨v, vs', rfl, h1, _⟩ := h
    simp at e; subst e
    exact ⟨v, rfl, h1⟩
  | d :: ds, vs, i + 1, _, h, e => by
    simp only [RdL] at h
    obtain ⟨v, vs', rfl, _, h2⟩ := h
    simp at e
    obtain ⟨u, e1, r⟩ := RdL.get h2 e
    exact ⟨u, by simpa using e1, r⟩
theorem RdL.append {g : Look} : ∀ {ds es : List D} {vs us : List Value}, RdL p w g ds vs → RdL p w g es us → RdL p w g (ds ++ es) (vs ++ us)
  | [], es, vs, us, h, h' => by simp only [RdL] at h; subst h; exact h'
  | d :: ds, es, vs, us, h, h' => by
    simp only [RdL] at h
    obtain ⟨v, vs', rfl, h1, h2⟩ := h
    simp only [List.cons_append, RdL]
    exact ⟨v, _, rfl, h1, RdL.append h2 h'⟩
theorem RdL.one {g : Look} {d : D} {v : Value} (h : Rd p w g d v) : RdL p w g [d] [v] := by simp only [RdL]; exact ⟨v, [], rfl, h, rfl⟩
theorem RdL.nil {g : Look} : RdL p w g [] [] := by simp only [RdL]
theorem RdL.cons {g : Look} {d : D} {v : Value} {ds vs} (h : Rd p w g d v) (r : RdL p w g ds vs) : RdL p w g (d :: ds) (v :: vs) := by simp only [RdL]; exact ⟨v, vs, rfl, h, r⟩
/-- all texts -/
theorem RdL.strs {g : Look} : ∀ {xs : List Str} {vs : List Value}, RdL p w g (xs.map .str) vs → ∃ ts : List Tok, ts.length = xs.length ∧ vs = List.zipWith (fun x t => Value.str x t) xs ts
  | [], vs, h => by simp only [List.map_nil, RdL] at h; exact ⟨[], rfl, h⟩
  | x :: xs, vs, h => by
    simp only [List.map_cons, RdL, Rd] at h
    obtain ⟨v, vs', rfl, ⟨t, rfl⟩, h2⟩ := h
    obtain ⟨ts, e, rfl⟩ := RdL.strs h2
    exact ⟨t :: ts, by simp [e], rfl⟩
end Mine
end
section
open PySem PySem.Spec PySem.Calls PyProof.Rows PySem.W
namespace Mine
variable {p : Program} {w : World} {K : Frag} {n : Nat} {env : Env} {σ : Store}

theorem IsL.isList {h : Heap} {a : Addr} {o : Obj} {vs : List Value} (e : h.get? a = some o) (hl : IsL o vs) : h.IsList a vs.toArray := by
  obtain ⟨n, rfl⟩ := hl
  exact ⟨_, e, rfl, n, rfl⟩
theorem IsT.isTuple {h : Heap} {a : Addr} {o : Obj} {vs : List Value} (e : h.get? a = some o) (hl : IsT o vs) : h.IsTuple a vs.toArray := by
  obtain ⟨n, rfl⟩ := hl
  exact ⟨_, e, rfl, n, rfl⟩

theorem mem_zip {xs : List Str} : ∀ {ts : List Tok} {v : Value}, v ∈ List.zipWith (fun x t => Value.str x t) xs ts → ∃ x t, v = .str x t := by
  induction xs with
  | nil => intro ts v h; simp at h
  | cons x xs ih =>
    intro ts v h
    cases ts with
    | nil => simp at h
    | cons t ts =>
      simp only [List.zipWith_cons_cons, List.mem_cons] at h
      rcases h with rfl | h
      · exact ⟨_, _, rfl⟩
      · exact ih h
theorem any_zip (x : Str) : ∀ (xs : List Str) (ts : List Tok), ts.length = xs.length → (List.zipWith (fun x t => Value.str x t) xs ts).any (fun y => y.isStr x) = decide (x ∈ xs)
  | [], ts, _ => by simp
  | y :: xs, [], h => by simp at h
  | y :: xs, t :: ts, h => by
    have ih := any_zip x xs ts (by simpa using h)
    rw [List.zipWith_cons_cons, List.any_cons, ih]
    by_cases e : y = x
    · subst e; simp [Value.isStr]
    · have e' : ¬ x = y := fun q => e q.symm
      simp [Value.isStr, e, e']
theorem eqAt_strs {A : Around} {s : Shared} {x : Str} {u : Tok} {y : Value} (h : ∃ z t, y = Value.str z t) : SeqAt.EqAt A s y (.str x u) (y.isStr x) := by
  obtain ⟨z, t, rfl⟩ := h
  have := (SeqRoads2.EqGives.str z x t u).at A s
  rw [toList_beq] at this
  exact this
theorem CmpOk.notInL {ds : List D} {xs : List Str} {x : Str} (h : ds = xs.map .str) : CmpOk p w K n .NotIn (.str x) (.list ds) (!decide (x ∈ xs)) := by
  subst h
  rintro O A s _ _ Q E ok st ⟨t, rfl⟩ ⟨a, o, vs, rfl, ho, hl, r⟩ hQ
  obtain ⟨ts, e, rfl⟩ := r.strs
  refine SeqAt.notIn_listAt (fun y => y.isStr x) (hl.isList ho) (fun y hy => eqAt_strs (mem_zip (by simpa using hy))) ?_
  rw [List.any_toArray, any_zip x xs ts e]
  exact hQ _ (.refl s)
theorem CmpOk.eqNil {ds : List D} : CmpOk p w K n .Eq (.list ds) (.list []) ds.isEmpty := by
  rintro O A s _ _ Q E ok st ⟨a, o, vs, rfl, ho, hl, r⟩ ⟨b, o', us, rfl, ho', hl', r'⟩ hQ
  have e1 := r.length
  have e2 : us = [] := by simpa only [RdL] using r'
  subst e2
  cases ds with
  | nil =>
    have : vs = [] := by simpa using e1.symm
    subst this
    exact SeqAt.eq_listAt (e := fun _ => true) (hl.isList ho) (hl'.isList ho') rfl ok.cline (fun j h1 => absurd h1 (by simp)) (hQ _ (.refl s))
  | cons d ds =>
    refine SeqAt.eq_list_lengthsAt (hl.isList ho) (hl'.isList ho') ?_ ok.cline (hQ _ (.refl s))
    have : vs.length ≠ 0 := by rw [← e1]; simp
    simp [this]
theorem CmpOk.neNil {ds : List D} : CmpOk p w K n .NotEq (.list ds) (.list []) (!ds.isEmpty) := by
  rintro O A s _ _ Q E ok st ⟨a, o, vs, rfl, ho, hl, r⟩ ⟨b, o', us, rfl, ho', hl', r'⟩ hQ
  have e1 := r.length
  have e2 : us = [] := by simpa only [RdL] using r'
  subst e2
  cases ds with
  | nil =>
    have : vs = [] := by simpa using e1.symm
    subst this
    exact SeqAt.RcNeAt.lists (e := fun _ => true) (hl.isList ho) (hl'.isList ho') rfl ok.cline (fun j h1 => absurd h1 (by simp)) p w E Q (hQ _ (.refl s))
  | cons d ds =>
    refine SeqAt.RcNeAt.lists_lengths (hl.isList ho) (hl'.isList ho') ?_ ok.cline p w E Q (hQ _ (.refl s))
    have : vs.length ≠ 0 := by rw [← e1]; simp
    simp [this]

/-- a dict's value -/
noncomputable def getK (ks : List (Str × D)) (x : Str) : Option D := (ks.find? fun kd => kd.1 = x).map (·.2)
theorem RdK.find {g : Look} (x : Str) : ∀ {ks : List (Str × D)} {kvs : List (Str × Value)}, RdK p w g ks kvs →
    match getK ks x with
    | some d => ∃ v, valueAt kvs x = some v ∧ Rd p w g d v
    | none => valueAt kvs x = none
  | [], kvs, h => by simp only [RdK] at h; subst h; rfl
  | (k, d) :: ks, kvs, h => by
    simp only [RdK] at h
    obtain ⟨v, kvs', rfl, h1, h2⟩ := h
    have ih := RdK.find x h2
    unfold getK valueAt at *
    by_cases e : k = x
    · subst e; simp; exact h1
    · simpa [e] using ih
theorem IsK.at {h : Heap} {a : Addr} {o : Obj} {kvs : List (Str × Value)} (e : h.get? a = some o) (d : IsK p w a o kvs) : h.DictOf (strKind p w) a kvs := Heap.dictOf_iff.mpr ⟨o, e, d.2⟩
theorem IsK.mods {a : Addr} {o : Obj} {kvs : List (Str × Value)} (d : IsK p w a o kvs) : (a == sysModules) = false := by simpa using d.1

theorem CmpOk.inD {ks : List (Str × D)} {x : Str} : CmpOk p w K n .In (.str x) (.dict ks) (getK ks x).isSome := by
  rintro O A s _ _ Q E ok st ⟨t, rfl⟩ ⟨a, o, kvs, rfl, ho, hd, r⟩ hQ
  refine wpAny_in_of (knd := strKind p w) (k := x) (strKind_is p w x t) hd.mods (hd.at ho).mapOf ?_
  have h := r.find x
  cases hk : getK ks x with
  | some d => rw [hk] at h hQ; obtain ⟨v, e, _⟩ := h; rw [e]; exact hQ _ (.tok s _)
  | none => rw [hk] at h hQ; dsimp only at h; rw [h]; exact hQ _ (.tok s _)
theorem CmpOk.notInD {ks : List (Str × D)} {x : Str} : CmpOk p w K n .NotIn (.str x) (.dict ks) (!(getK ks x).isSome) := by
  rintro O A s _ _ Q E ok st ⟨t, rfl⟩ ⟨a, o, kvs, rfl, ho, hd, r⟩ hQ
  refine wpAny_notIn_of (knd := strKind p w) (k := x) (strKind_is p w x t) hd.mods (hd.at ho).mapOf ?_
  have h := r.find x
  cases hk : getK ks x with
  | some d => rw [hk] at h hQ; obtain ⟨v, e, _⟩ := h; rw [e]; exact hQ _ (.tok s _)
  | none => rw [hk] at h hQ; dsimp only at h; rw [h]; exact hQ _ (.tok s _)

/-- a thing at a place -/
noncomputable def IdxOk (p : Program) (w : World) (K : Frag) (n : Nat) (a i c : D) : Prop :=
  ∀ (O : List Addr) (A : Around) (s : Shared) (x y : Value) (Q : Value → Shared → Prop) (E : Value → Shared → Prop) (value slice : Expr), Ok n A → StO p w K O s → RdV p w s.heap O a x → RdV p w s.heap O i y →
    (∀ v s', Sh s s' → Rd p w (exc s'.heap O) c v → Q v s') → (∀ o i, subscripted slice false o i = operate [o, i] (getItem o i)) → wpAny (model p w) A (subscriptTail value slice x y) Q E s
theorem Ev.sub {l r : Expr} {pos : Pos} {a b c : D} (hl : EvV p w K n env σ l a) (hr : EvV p w K n env σ r b) (h : IdxOk p w K n a b c) (hs : ∀ o i, subscripted r false o i = operate [o, i] (getItem o i)) :
    Ev p w K n env σ (.Subscript l r pos) c :=
  fun O A s Q E ok st hQ => Subscript_ (two hl hr ok st fun x y s' y₁ st' rx ry => h O A s' x y Q E l r ok st'.toStO rx ry (fun v s'' y₂ r => hQ v s'' (y₁.trans y₂) r) hs)
theorem IdxOk.list {ds : List D} {i : Int} {d : D} (h0 : 0 ≤ i) (hf : i < 2 ^ 63) (h : ds[i.toNat]? = some d) : IdxOk p w K n (.list ds) (.int i) d := by
  rintro O A s _ _ Q E value slice ok st ⟨a, o, vs, rfl, ho, hl, r⟩ ⟨t, rfl⟩ hQ hs
  obtain ⟨v, e, rv⟩ := r.get h
  exact tail_any (hl.isList ho).typeIs slot_list_getitem.lookup (wpAny_getItem_list (x := v) (hl.isList ho) h0 hf (by simpa using e) (hQ _ _ (.refl s) rv)) (hs _ _)
theorem IdxOk.dict {ks : List (Str × D)} {x : Str} {d : D} (h : getK ks x = some d) : IdxOk p w K n (.dict ks) (.str x) d := by
  rintro O A s _ _ Q E value slice ok st ⟨a, o, kvs, rfl, ho, hd, r⟩ ⟨t, rfl⟩ hQ hs
  have hf := r.find x
  rw [h] at hf
  obtain ⟨v, e, rv⟩ := hf
  exact tail_any (hd.at ho).typeIs slot_dict_getitem.lookup (wpAny_getItem_of (knd := strKind p w) (k := x) (strKind_is p w x t) (hd.at ho).mapOf e (hQ _ _ (.tok s _) (st.rd (.tok s _) rv))) (hs _ _)
theorem IdxOk.str {x : Str} {i : Int} {c : Nat} (hr : (decide (i < -(2 ^ 63 : Int)) || decide (i ≥ 2 ^ 63)) = false) (hc : (seqIndex? i x.length).bind (x.cps[·]?) = some c) : IdxOk p w K n (.str x) (.int i) (.str ⟨#[c]⟩) := by
  rintro O A s _ _ Q E value slice ok st ⟨t, rfl⟩ ⟨u, rfl⟩ hQ hs
  exact tail_any (typeIs_str s x t) slot_str_getitem.lookup (getItem_str hr hc (hQ _ _ (.tok s _) ⟨_, rfl⟩)) (hs _ _)

/-- x[lo:hi] of a text -/
noncomputable def strCut (x : Str) (lo hi : Option Int) : Str :=
  if ((Builtin.Str.strSliceIndices lo hi 1 x.length).length == x.length) = true then x else ⟨((Builtin.Str.strSliceIndices lo hi 1 x.length).filterMap (x.cps[·]?)).toArray⟩
/-- an end of a slice that is written out or an int -/
inductive EvP (p : Program) (w : World) (K : Frag) (n : Nat) (env : Env) (σ : Store) : Option Expr → Option Int → Prop
  | none : EvP p w K n env σ none none
  | some {e : Expr} {i : Int} : Ev p w K n env σ e (.int i) → EvP p w K n env σ (some e) (some i)
theorem EvP.run {e : Option Expr} {i : Option Int} (h : EvP p w K n env σ e i) {O : List Addr} {A : Around} {s : Shared} {E : Value → Shared → Prop} {Q : Value → Shared → Prop} (ok : Ok n A) (st : StE p w K O env σ s)
    (hQ : ∀ v s' l, Sh s s' → v = partValue l → l.map (·.1) = i → IsPart v i → Q v s') : wpAny (model p w) A (evalPart e env) Q E s := by
  cases h with
  | none => rw [evalPart_none]; exact wpAny_pure (hQ _ s Option.none (.refl s) rfl rfl .none)
  | some h =>
    rw [evalPart_some]
    refine h O A s _ E ok st ?_
    rintro v s' y ⟨t, rfl⟩
    exact hQ _ s' (Option.some (_, t)) y rfl rfl (.int _ _)
end Mine
end
section
open PySem PySem.Spec PySem.Calls PyProof.Rows PySem.W
namespace Mine
variable {p : Program} {w : World} {K : Frag} {n : Nat} {env : Env} {σ : Store}

theorem StO.low {O : List Addr} {s : Shared} (st : StO p w K O s) : s.heap.objs.size ≠ sysModules := by
  obtain ⟨mc, hn, _⟩ := st.wd.lim
  have h1 : (2 : Nat) < s.heap.objs.size := hn.lt
  intro e
  rw [e] at h1
  exact absurd h1 (by decide)
theorem exc_push {h : Heap} {O : List Addr} {o : Obj} (hf : h.objs.size ∉ O) (ho : o.isFreed = false := by rfl) : exc (h.push o) O h.objs.size = some o := exc_of hf (Heap.get?_push_size _ ho)
theorem StO.allocSh {s : Shared} {o : Obj} : Sh s { s with heap := s.heap.push o } := .mkh (.push _ _)
theorem StO.list {O : List Addr} {s : Shared} (st : StO p w K O s) {ds : List D} {vs : List Value} (r : RdL p w (exc s.heap O) ds vs) :
    Rd p w (exc (s.heap.push { cls := .type "list", data := .seq vs.toArray }) O) (.list ds) (.ref s.heap.objs.size) := by
  simp only [Rd]
  exact ⟨_, _, vs, rfl, exc_push st.fresh, ⟨0, rfl⟩, st.rdl (s' := { s with heap := s.heap.push _ }) StO.allocSh r⟩
theorem StO.tup {O : List Addr} {s : Shared} (st : StO p w K O s) {ds : List D} {vs : List Value} (r : RdL p w (exc s.heap O) ds vs) :
    Rd p w (exc (s.heap.push { cls := .type "tuple", data := .seq vs.toArray }) O) (.tup ds) (.ref s.heap.objs.size) := by
  simp only [Rd]
  exact ⟨_, _, vs, rfl, exc_push st.fresh, ⟨0, rfl⟩, st.rdl (s' := { s with heap := s.heap.push _ }) StO.allocSh r⟩

/-- a list of expressions -/
noncomputable def EvLs (p : Program) (w : World) (K : Frag) (n : Nat) (env : Env) (σ : Store) (es : List Expr) (ds : List D) : Prop :=
  ∀ (O : List Addr) (A : Around) (s : Shared) (Q : List Value → Shared → Prop) (E : Value → Shared → Prop) (pos : Pos), Ok n A → StE p w K O env σ s →
    (∀ vs s', Sh s s' → RdL p w (exc s'.heap O) ds vs → Q vs s') → wpAny (model p w) A (spliced (backTo pos (starEach es env))) Q E s
theorem EvLs.nil : EvLs p w K n env σ [] [] := fun O A s Q E pos ok st hQ => spliced_none (hQ _ s (.refl s) .nil)
theorem EvLs.cons {e : Expr} {es : List Expr} {d : D} {ds : List D} (h : Ev p w K n env σ e d) (hs : EvLs p w K n env σ es ds) (he : starEach (e :: es) env = (false, eval e env) :: starEach es env := by rfl) :
    EvLs p w K n env σ (e :: es) (d :: ds) := fun O A s Q E pos ok st hQ =>
  spliced_more (h O A s _ E ok st fun v s₁ y₁ r₁ => hs O A s₁ _ E pos ok (st.sh y₁) fun vs s₂ y₂ r₂ => hQ _ s₂ (y₁.trans y₂) (.cons ((st.sh y₁).toStO.rd y₂ r₁) r₂)) he
theorem Ev.list {es : List Expr} {ds : List D} {pos : Pos} (h : EvLs p w K n env σ es ds) (hz : ds.length ≤ sizeLine) : Ev p w K n env σ (.List es pos) (.list ds) := fun O A s Q E ok st hQ =>
  List_ (h O A s _ E pos ok st fun vs s₁ y₁ r₁ => wpAny_newList (hQ _ _ (y₁.trans StO.allocSh) ((st.sh y₁).toStO.list r₁)) (by rw [← r₁.length]; exact hz))
theorem Ev.tup {es : List Expr} {ds : List D} {k : Nat} {pos : Pos} (h : EvLs p w K n env σ es ds) (hz : ds.length ≤ sizeLine) : Ev p w K n env σ (.Tuple es k pos) (.tup ds) := fun O A s Q E ok st hQ =>
  Tuple_ (h O A s _ E pos ok st fun vs s₁ y₁ r₁ => wpAny_newTuple (hQ _ _ (y₁.trans StO.allocSh) ((st.sh y₁).toStO.tup r₁)) (by rw [← r₁.length]; exact hz))

/-- slices -/
theorem strCut_post {x : Str} {t : Tok} {l u : Option (Int × Tok)} {lo hi : Option Int} {Q : Value → Shared → Prop} {s : Shared} (e1 : l.map (·.1) = lo) (e2 : u.map (·.1) = hi) (hz : x.length ≤ sizeLine) (hz' : (strCut x lo hi).length ≤ sizeLine)
    (h : ∀ t' k, Q (.str (strCut x lo hi) t') { s with toks := k }) : (sliceMade x t l u none).post Q s := by
  subst e1 e2
  unfold sliceMade slicePicked
  unfold strCut at h hz'
  by_cases c : ((Builtin.Str.strSliceIndices (l.map (·.1)) (u.map (·.1)) 1 x.length).length == x.length) = true
  · rw [if_pos c] at h
    have c' : (((Option.none : Option (Int × Tok)).map (·.1)).getD 1 == 1 && (Builtin.Str.strSliceIndices (l.map (·.1)) (u.map (·.1)) (((Option.none : Option (Int × Tok)).map (·.1)).getD 1) x.length).length == x.length) = true := by
      simpa using c
    rw [if_pos c']
    exact h t s.toks
  · rw [if_neg c] at h hz'
    have c' : ¬ (((Option.none : Option (Int × Tok)).map (·.1)).getD 1 == 1 && (Builtin.Str.strSliceIndices (l.map (·.1)) (u.map (·.1)) (((Option.none : Option (Int × Tok)).map (·.1)).getD 1) x.length).length == x.length) = true := by
      simpa using c
    rw [if_neg c']
    exact ⟨hz', h _ _⟩
theorem Ev.cutS {l : Expr} {lo hi : Option Expr} {i j : Option Int} {sp pos : Pos} {x : Str} (hl : Ev p w K n env σ l (.str x)) (h1 : EvP p w K n env σ lo i) (h2 : EvP p w K n env σ hi j) (hz : x.length ≤ sizeLine)
    (hz' : (strCut x i j).length ≤ sizeLine) : Ev p w K n env σ (.Subscript l (.Slice lo hi none sp) pos) (.str (strCut x i j)) := fun O A s Q E ok st hQ => by
  refine Subscript_ (hl O A s _ E ok st fun v s₁ y₁ r₁ => ?_)
  obtain ⟨t, rfl⟩ := r₁
  refine wpAny_Slice (h1.run ok (st.sh y₁) fun vl s₂ l' y₂ e1 e1' _ => h2.run ok ((st.sh y₁).sh y₂) fun vu s₃ u' y₃ e2 e2' _ => ?_)
  rw [evalPart_none]
  refine wpAny_pure ?_
  subst e1 e2
  have y : Sh s { s₃ with heap := s₃.heap.push { cls := .type "slice", data := .fields #[partValue l', partValue u', .none] } } := ((y₁.trans y₂).trans y₃).trans StO.allocSh
  refine tail_any (typeIs_str _ x t) slot_str_getitem.lookup (wpAny_getItem_str_slice (l := l') (u := u') (st := none) ⟨_, Heap.get?_push_size _ rfl, rfl, rfl⟩ rfl ?_) rfl
  exact strCut_post e1' e2' hz hz' fun t' k => hQ _ _ (y.trans (.tok _ _)) ⟨_, rfl⟩
theorem Ev.cutB {l : Expr} {lo hi : Option Expr} {i j : Option Int} {sp pos : Pos} {x : Array UInt8} (hl : Ev p w K n env σ l (.bytes x)) (h1 : EvP p w K n env σ lo i) (h2 : EvP p w K n env σ hi j) (hz : x.size ≤ sizeLine) :
    Ev p w K n env σ (.Subscript l (.Slice lo hi none sp) pos) (.bytes (KBy.picked x i j)) := fun O A s Q E ok st hQ => by
  refine Subscript_ (hl O A s _ E ok st fun v s₁ y₁ r₁ => ?_)
  obtain ⟨t, rfl⟩ := r₁
  refine wpAny_Slice (h1.run ok (st.sh y₁) fun vl s₂ l' y₂ e1 e1' p1 => h2.run ok ((st.sh y₁).sh y₂) fun vu s₃ u' y₃ e2 e2' p2 => ?_)
  rw [evalPart_none]
  refine wpAny_pure ?_
  have y : Sh s { s₃ with heap := s₃.heap.push { cls := .type "slice", data := .fields #[vl, vu, .none] } } := ((y₁.trans y₂).trans y₃).trans StO.allocSh
  refine tail_any (typeIs_bytes _ _ _) FB.slot_bytes_getitem.lookup (getItem_meets (typeIs_bytes _ _ _) (by decide) FB.slot_bytes_getitem FB.entry_bytes_getitem (FB.args_bytes_getitem_2 _ _) (KBc.meets_slice2 x t _ p1 p2)
    ⟨Heap.IsSliceOf.new _ _ _ _, Nat.le_trans (KBc.size_picked_le x i j) hz, fun t' k => hQ _ _ (y.trans (.tok _ _)) ⟨_, rfl⟩⟩) rfl
theorem RdL.reverse {g : Look} : ∀ {ds : List D} {vs : List Value}, RdL p w g ds vs → RdL p w g ds.reverse vs.reverse
  | [], vs, r => by simp only [RdL] at r; subst r; simpa using RdL.nil
  | d :: ds, vs, r => by
    simp only [RdL] at r
    obtain ⟨v, vs', rfl, h1, h2⟩ := r
    rw [List.reverse_cons, List.reverse_cons]
    exact (RdL.reverse h2).append (.one h1)
/-- l[::-1] -/
theorem Ev.rev {l e : Expr} {sp pos : Pos} {ds : List D} (hl : EvV p w K n env σ l (.list ds)) (he : Ev p w K n env σ e (.int (-1))) (hz : ds.length ≤ sizeLine) :
    Ev p w K n env σ (.Subscript l (.Slice none none (some e) sp) pos) (.list ds.reverse) := fun O A s Q E ok st hQ => by
  refine Subscript_ (hl O A s _ E ok st fun v s₁ y₁ r₁ => ?_)
  refine wpAny_Slice ?_
  rw [evalPart_none]
  refine wpAny_pure (wpAny_pure ?_)
  rw [evalPart_some]
  refine he O A s₁ _ E ok (st.sh y₁) fun ve s₂ y₂ r₂ => ?_
  obtain ⟨t, rfl⟩ := r₂
  obtain ⟨a, o, vs, rfl, ho, hL, r⟩ := r₁.sh (st.sh y₁).wd y₂
  have st₂ := ((st.sh y₁).sh y₂).toStO
  have hL' := (hL.isList ho).push { cls := .type "slice", data := .fields #[.none, .none, .int (-1) t] }
  refine tail_any (s := { s₂ with heap := s₂.heap.push { cls := .type "slice", data := .fields #[.none, .none, .int (-1) t] } }) hL'.typeIs slot_list_getitem.lookup
    (wpAny_getItem_list_slice hL' (Heap.IsSliceOf.new _ _ _ _) .none .none (.int (-1) t) (by decide) ?_ (by rw [List.size_toArray, ← r.length]; exact hz)) rfl
  rw [krv_pick]
  have y3 : Sh s₂ { s₂ with heap := s₂.heap.push { cls := .type "slice", data := .fields #[.none, .none, .int (-1) t] } } := StO.allocSh
  refine hQ _ _ ((((y₁.trans y₂).trans y3)).trans StO.allocSh) ?_
  have r' : RdL p w (exc s₂.heap O) ds.reverse vs.reverse := r.reverse
  exact (st₂.sh y3).list (st₂.rdl y3 r')
end Mine
end
section
open PySem PySem.Spec PySem.Calls PyProof.Rows PySem.W
namespace Mine
variable {p : Program} {w : World} {K : Frag} {n : Nat} {env : Env} {σ : Store}

/-- a store's new entry -/
noncomputable def put : Store → Str → Ent → Store
  | [], x, e => [(x, e)]
  | (y, f) :: r, x, e => if y = x then (x, e) :: r else (y, f) :: put r x e
theorem lookup_put (σ : Store) (x : Str) (e : Ent) (y : Str) : (put σ x e).lookup y = if y = x then some e else σ.lookup y := by
  induction σ with
  | nil =>
    unfold put
    by_cases h : y = x
    · subst h; simp
    · have : (y == x) = false := by simpa using h
      simp [List.lookup, this, h]
  | cons z r ih =>
    obtain ⟨z, f⟩ := z
    unfold put
    by_cases h : z = x
    · subst h
      rw [if_pos rfl]
      by_cases hy : y = z
      · subst hy; simp
      · have : (y == z) = false := by simpa using hy
        simp [List.lookup_cons, this, hy]
    · rw [if_neg h, List.lookup_cons, List.lookup_cons, ih]
      by_cases hy : y = z
      · subst hy; simp [h]
      · have : (y == z) = false := by simpa using hy
        simp [this]
theorem mem_put {σ : Store} {x : Str} {e : Ent} {y : Str} (h : y ∈ (put σ x e).map (·.1)) : y = x ∨ y ∈ σ.map (·.1) := by
  induction σ with
  | nil => unfold put at h; simp at h; exact .inl h
  | cons z r ih =>
    obtain ⟨z, f⟩ := z
    unfold put at h
    by_cases hz : z = x
    · rw [if_pos hz] at h
      simp only [List.map_cons, List.mem_cons] at h ⊢
      rcases h with h | h
      · exact .inl h
      · exact .inr (.inr h)
    · rw [if_neg hz] at h
      simp only [List.map_cons, List.mem_cons] at h ⊢
      rcases h with h | h
      · exact .inr (.inl h)
      · exact (ih h).imp id .inr
theorem put_nodup {σ : Store} {x : Str} {e : Ent} (h : (σ.map (·.1)).Nodup) : ((put σ x e).map (·.1)).Nodup := by
  induction σ with
  | nil => unfold put; simp
  | cons z r ih =>
    obtain ⟨z, f⟩ := z
    rw [List.map_cons, List.nodup_cons] at h
    unfold put
    by_cases hz : z = x
    · rw [if_pos hz, List.map_cons, List.nodup_cons]
      subst hz; exact h
    · rw [if_neg hz, List.map_cons, List.nodup_cons]
      exact ⟨fun hm => (mem_put hm).elim hz h.1, ih h.2⟩
theorem lookup_of_mem {σ : Store} {x : Str} {e : Ent} (hn : (σ.map (·.1)).Nodup) (h : (x, e) ∈ σ) : σ.lookup x = some e := by
  induction σ with
  | nil => cases h
  | cons z r ih =>
    obtain ⟨z, f⟩ := z
    rw [List.map_cons, List.nodup_cons] at hn
    rw [List.lookup_cons]
    rcases List.mem_cons.mp h with h | h
    · cases h; simp
    · have : x ≠ z := fun q => hn.1 (q ▸ List.mem_map.mpr ⟨_, h, rfl⟩)
      have : (x == z) = false := by simpa using this
      rw [this]; exact ih hn.2 h
theorem own_of_mem {σ : Store} {a : Addr} (hn : (σ.map (·.1)).Nodup) (h : a ∈ owned σ) : ∃ x e, σ.lookup x = some e ∧ a ∈ e.own := by
  obtain ⟨⟨x, e⟩, h1, h2⟩ := List.mem_flatMap.mp h
  exact ⟨x, e, lookup_of_mem hn h1, h2⟩
theorem owned_put {σ : Store} {x : Str} {e : Ent} {a : Addr} (h : a ∈ owned (put σ x e)) : a ∈ owned σ ∨ a ∈ e.own := by
  induction σ with
  | nil => unfold put owned at h; simp at h; exact .inr h
  | cons z r ih =>
    obtain ⟨z, f⟩ := z
    unfold put at h
    by_cases hz : z = x
    · rw [if_pos hz] at h
      unfold owned at h ⊢
      simp only [List.flatMap_cons, List.mem_append] at h ⊢
      rcases h with h | h
      · exact .inr h
      · exact .inl (.inr h)
    · rw [if_neg hz] at h
      unfold owned at h ih ⊢
      simp only [List.flatMap_cons, List.mem_append] at h ⊢
      rcases h with h | h
      · exact .inl (.inl h)
      · rcases ih h with h | h
        · exact .inl (.inr h)
        · exact .inr h
theorem mem_owned {σ : Store} {x : Str} {e : Ent} {a : Addr} (h : σ.lookup x = some e) (ha : a ∈ e.own) : a ∈ owned σ := by
  unfold owned
  exact List.mem_flatMap.mpr ⟨_, mem_of_lookup h, ha⟩

structure Base where
  look : Look
  os : OsState
  gens : Array GenState
noncomputable def muts (env : Env) (σ : Store) (O₀ : List Addr) : List Addr := env.locals :: (env.cells.map (·.2) ++ (owned σ ++ O₀))
/-- the world's own objects lie below -/
noncomputable abbrev lowN : Nat := 195
noncomputable def Own1 (B : Base) (O₀ : List Addr) (a : Addr) : Prop := B.look a = none ∧ a ∉ O₀ ∧ lowN ≤ a

structure StS (p : Program) (w : World) (K : Frag) (B : Base) (O₀ : List Addr) (env : Env) (σ : Store) (s : Shared) : Prop where
  e : StE p w K (muts env σ O₀) env σ s
  keep : KpL B.look s.heap
  os : s.os = B.os
  gens : AllBare B.gens → AllBare s.gens
  ns : ∃ m, s.heap.Ns env.locals m
  cells : ∀ x c, env.cells.lookup x = some c → ∃ v, s.heap.IsCell c v
  cellk : ∀ x, env.kindOf x = some .cell → ∃ c, env.cells.lookup x = some c
  fl : Own1 B O₀ env.locals
  fc : ∀ x c, env.cells.lookup x = some c → Own1 B O₀ c ∧ c ≠ env.locals
  cc : ∀ x y c, env.cells.lookup x = some c → env.cells.lookup y = some c → x = y
  fo : ∀ x e a, σ.lookup x = some e → a ∈ e.own → Own1 B O₀ a ∧ a ≠ env.locals ∧ a ∉ env.cells.map (·.2)
  oo : ∀ x y e f a, σ.lookup x = some e → σ.lookup y = some f → a ∈ e.own → a ∈ f.own → x = y
  kd : (σ.map (·.1)).Nodup

theorem StS.sh {B : Base} {O₀ : List Addr} {s s' : Shared} (st : StS p w K B O₀ env σ s) (y : Sh s s') : StS p w K B O₀ env σ s' :=
  { st with
    e := st.e.sh y
    keep := st.keep.trans y.kp
    os := y.os.trans st.os
    gens := fun h => y.gens (st.gens h)
    ns := let ⟨m, hn⟩ := st.ns; ⟨m, st.e.wd.ns y.kp hn⟩
    cells := fun x c hc => let ⟨v, hv⟩ := st.cells x c hc; ⟨v, st.e.wd.cell y.kp hv⟩ }

/-- the world where one object above it was turned -/
theorem Wd.turn {h h' : Heap} (W : Wd p w K h) {m : Addr} (hm : lowN ≤ m) (hs : Heap.SameBut m h h') : Wd p w K h' where
  kok := W.kok
  kin := fun a o e => (hs.2 a (fun q => by have := W.kok.low a o e; subst q; exact absurd this (Nat.not_lt.mpr hm))).trans (W.kin a o e)
  lim := let ⟨mc, hn, e⟩ := W.lim; ⟨mc, hn.sameBut hs (fun q => by rw [← q] at hm; exact absurd hm (by decide)), e⟩
  g := let ⟨mc, hn⟩ := W.g; ⟨mc, hn.sameBut hs (fun q => by rw [← q] at hm; exact absurd hm (by decide))⟩
  b := let ⟨mc, hn, r⟩ := W.b; ⟨mc, hn.sameBut hs (fun q => by rw [← q] at hm; exact absurd hm (by decide)), r⟩
  ta := let ⟨ps, e, q⟩ := W.ta; ⟨ps, (hs.2 _ (fun q => by rw [← q] at hm; exact absurd hm (by decide))).trans e, q⟩
  tb := let ⟨ps, e, q⟩ := W.tb; ⟨ps, (hs.2 _ (fun q => by rw [← q] at hm; exact absurd hm (by decide))).trans e, q⟩
  bm := let ⟨mg, bm, ob, q, x⟩ := W.bm; ⟨mg, bm, ob, q, x.ns.sameBut hs (fun q => by rw [← q] at hm; exact absurd hm (by decide)), x.name, x.ne, (hs.2 _ (fun e => by subst e; exact absurd q (Nat.not_lt.mpr hm))).trans x.obj, x.cls, x.dict, x.data⟩
theorem KpL.turn {g : Look} {h h' : Heap} {m : Addr} (k : KpL g h) (hg : g m = none) (hm : lowN ≤ m) (hs : Heap.SameBut m h h') : KpL g h' where
  get := fun b o h1 h2 e => (hs.2 b (fun q => by subst q; rw [hg] at e; cases e)).trans (k.get b o h1 h2 e)
  ta := fun ps e q => let ⟨mo, e', q'⟩ := k.ta ps e q; ⟨mo, (hs.2 _ (fun q => by rw [← q] at hm; exact absurd hm (by decide))).trans e', q'⟩
  tb := fun ps e q => let ⟨mo, e', q'⟩ := k.tb ps e q; ⟨mo, (hs.2 _ (fun q => by rw [← q] at hm; exact absurd hm (by decide))).trans e', q'⟩

theorem sub_turn {h h' : Heap} {O O' : List Addr} {m : Addr} (hm : m ∈ O) (hs : Heap.SameBut m h h') (hO : ∀ a ∈ O', a ∈ O) : Sub (exc h O) (exc h' O') := fun a o e _ => by
  obtain ⟨h1, h2⟩ := exc_get e
  exact exc_of (fun q => h1 (hO a q)) ((hs.2 a (fun q => h1 (q ▸ hm))).trans h2)
/-- an entry that the turned object does not bear -/
theorem ER.turn {h h' : Heap} {O O' : List Addr} {m : Addr} {v : Value} {e : Ent} (x : ER p w h O v e) (hm : m ∈ O) (hs : Heap.SameBut m h h') (hO : ∀ a ∈ O', a ∈ O) (ho : m ∉ e.own) (ho' : ∀ a ∈ e.own, a ∈ O') : ER p w h' O' v e := by
  have sb := sub_turn hm hs hO
  cases e with
  | val d => exact Rd.mono sb d x
  | lst a ds =>
    obtain ⟨e, _, o, vs, h1, h2, r⟩ := x
    exact ⟨e, ho' a (by simp [Ent.own]), o, vs, (hs.2 a (fun q => ho (by simp [Ent.own, q]))).trans h1, h2, r.mono sb⟩
  | dct a ds =>
    obtain ⟨e, _, o, vs, h1, h2, r⟩ := x
    exact ⟨e, ho' a (by simp [Ent.own]), o, vs, (hs.2 a (fun q => ho (by simp [Ent.own, q]))).trans h1, h2, r.mono sb⟩
  | pil a dx f ds =>
    obtain ⟨e, _, _, vs, ⟨⟨n, h1⟩, od, h2, h3⟩, r⟩ := x
    have ha : a ≠ m := fun q => ho (by simp [Ent.own, q])
    have hd : dx ≠ m := fun q => ho (by simp [Ent.own, q])
    exact ⟨e, ho' a (by simp [Ent.own]), ho' dx (by simp [Ent.own]), vs, ⟨⟨n, (hs.2 a ha).trans h1⟩, od, (hs.2 dx hd).trans h2, h3⟩, r.mono sb⟩

theorem ns_unique {h : Heap} {a : Addr} {m m' : Str → Option Value} (x : h.Ns a m) (y : h.Ns a m') : m = m' := by
  obtain ⟨o, es, ep, ho, hd, _, hf⟩ := x
  obtain ⟨o', es', ep', ho', hd', _, hf'⟩ := y
  rw [ho] at ho'; cases ho'
  rw [hd] at hd'; cases hd'
  funext z
  rw [← hf, ← hf']
theorem mem_muts_own {O₀ : List Addr} {a : Addr} (h : a ∈ owned σ) : a ∈ muts env σ O₀ := List.mem_cons_of_mem _ (List.mem_append_right _ (List.mem_append_left _ h))
theorem mem_muts_cell {O₀ : List Addr} {x : Str} {a : Addr} (h : env.cells.lookup x = some a) : a ∈ muts env σ O₀ :=
  List.mem_cons_of_mem _ (List.mem_append_left _ (List.mem_map.mpr ⟨_, mem_of_lookup h, rfl⟩))
theorem mem_muts_loc {O₀ : List Addr} : env.locals ∈ muts env σ O₀ := List.mem_cons_self
theorem muts_sub {O₀ : List Addr} {σ' : Store} (h : ∀ a ∈ owned σ', a ∈ owned σ) : ∀ a ∈ muts env σ' O₀, a ∈ muts env σ O₀ := fun a ha => by
  simp only [muts, List.mem_cons, List.mem_append] at ha ⊢
  rcases ha with h1 | h1 | h1 | h1
  · exact .inl h1
  · exact .inr (.inl h1)
  · exact .inr (.inr (.inl (h a h1)))
  · exact .inr (.inr (.inr h1))

theorem StS.turn {B : Base} {O₀ : List Addr} {s : Shared} (st : StS p w K B O₀ env σ s) {m : Addr} {h' : Heap} {tk : Nat} (hm : m ∈ muts env σ O₀) (ow : B.look m = none ∧ lowN ≤ m) (hs : Heap.SameBut m s.heap h') (hex : ∃ o, h'.get? m = some o)
    {σ' : Store} (hsub : ∀ a ∈ owned σ', a ∈ owned σ) (ns : ∃ mm, h'.Ns env.locals mm) (cells : ∀ x c, env.cells.lookup x = some c → ∃ v, h'.IsCell c v)
    (vars : ∀ x e, σ'.lookup x = some e → ∃ v, Bnd env h' x v ∧ ER p w h' (muts env σ' O₀) v e) (hl : ∀ x e a, σ'.lookup x = some e → a ∈ e.own → ∃ e₀, σ.lookup x = some e₀ ∧ a ∈ e₀.own) (hkd : (σ'.map (·.1)).Nodup) :
    StS p w K B O₀ env σ' { s with heap := h', toks := tk } where
  e := { wd := st.e.wd.turn ow.2 hs
         bd := fun a ha => by
           obtain ⟨h1, h2, o, ho⟩ := st.e.bd a (muts_sub hsub a ha)
           refine ⟨h1, h2, ?_⟩
           by_cases e : a = m
           · subst e; exact hex
           · exact ⟨o, (hs.2 a e).trans ho⟩
         kind := st.e.kind
         glob := st.e.glob
         bi := st.e.bi
         vars := vars }
  keep := st.keep.turn ow.1 ow.2 hs
  os := st.os
  gens := st.gens
  ns := ns
  cells := cells
  cellk := st.cellk
  fl := st.fl
  fc := st.fc
  cc := st.cc
  fo := fun x e a h1 h2 => let ⟨e₀, h3, h4⟩ := hl x e a h1 h2; st.fo x e₀ a h3 h4
  oo := fun x y e f a h1 h2 h3 h4 => let ⟨e₀, h5, h6⟩ := hl x e a h1 h3; let ⟨f₀, h7, h8⟩ := hl y f a h2 h4; st.oo x y e₀ f₀ a h5 h7 h6 h8
  kd := hkd

/-- a name is bound to a datum -/
theorem StS.store {B : Base} {O₀ : List Addr} {s : Shared} {M : Model} {A : Around} {E : Value → Shared → Prop} (st : StS p w K B O₀ env σ s) {x : Str} {d : D} {v : Value} {Q : Unit → Shared → Prop}
    (hk : env.kindOf x = some .local ∨ env.kindOf x = some .cell) (hx : okName x = true) (r : Rd p w (exc s.heap (muts env σ O₀)) d v)
    (hQ : ∀ s', StS p w K B O₀ env (put σ x (.val d)) s' → Q () s') : wpAny M A (storeName env x v) Q E s := by
  have hsub : ∀ a ∈ owned (put σ x (.val d)), a ∈ owned σ := fun a ha => (owned_put ha).elim id fun h => by simp [Ent.own] at h
  have hl : ∀ y e a, (put σ x (.val d)).lookup y = some e → a ∈ e.own → ∃ e₀, σ.lookup y = some e₀ ∧ a ∈ e₀.own := fun y e a h1 h2 => by
    rw [lookup_put] at h1
    by_cases hy : y = x
    · rw [if_pos hy] at h1; cases h1; simp [Ent.own] at h2
    · rw [if_neg hy] at h1; exact ⟨e, h1, h2⟩
  have hp : (env.scope.kind == .class || (env.scope.kind == .module && env.locals != env.globals)) = false := by rw [st.e.kind]; rfl
  obtain ⟨m, hn⟩ := st.ns
  rcases hk with hk | hk
  · refine wpAny_storeName_local hk hn (fun h' hn' hs' => hQ _ ?_) hp
    refine st.turn mem_muts_loc ⟨st.fl.1, st.fl.2.2⟩ hs' (let ⟨o, _, _, ho, _⟩ := hn'; ⟨o, ho⟩) hsub ⟨_, hn'⟩ (fun y c hc => let ⟨u, hu⟩ := st.cells y c hc; ⟨u, hu.sameBut hs' (st.fc y c hc).2⟩) (fun y e hy => ?_) hl (put_nodup st.kd)
    rw [lookup_put] at hy
    by_cases e1 : y = x
    · rw [if_pos e1] at hy; cases hy
      subst e1
      exact ⟨v, ⟨hx, .inl ⟨hk, _, hn', by simp⟩⟩, Rd.mono (sub_turn mem_muts_loc hs' (muts_sub hsub)) d r⟩
    · rw [if_neg e1] at hy
      obtain ⟨u, b, r'⟩ := st.e.vars y e hy
      refine ⟨u, ⟨b.1, b.2.imp (fun ⟨a, m2, n2, e2⟩ => ⟨a, _, hn', ?_⟩) fun ⟨a, c, hc, hi⟩ => ⟨a, c, hc, hi.sameBut hs' (st.fc y c hc).2⟩⟩, r'.turn mem_muts_loc hs' (muts_sub hsub) (fun q => (st.fo y e _ hy q).2.1 rfl) fun a ha => mem_muts_own (mem_owned (x := y) (by rw [lookup_put, if_neg e1]; exact hy) ha)⟩
      rw [ns_unique n2 hn] at e2
      simp [e1, e2]
  · obtain ⟨c, hc⟩ := st.cellk x hk
    obtain ⟨u₀, hu₀⟩ := st.cells x c hc
    refine wpAny_storeName_cell st.e.kind hk hc hu₀ fun h' hi' hs' => hQ _ ?_
    have hcl := (st.fc x c hc).2
    have cell' : ∀ y c', env.cells.lookup y = some c' → y ≠ x → c' ≠ c := fun y c' h1 h2 q => h2 (st.cc y x c' h1 (q ▸ hc))
    refine st.turn (tk := s.toks) (mem_muts_cell hc) ⟨(st.fc x c hc).1.1, (st.fc x c hc).1.2.2⟩ hs' (let ⟨o, ho, _⟩ := hi'; ⟨o, ho⟩) hsub ⟨m, hn.sameBut hs' (Ne.symm hcl)⟩ (fun y c' hc' => ?_) (fun y e hy => ?_) hl (put_nodup st.kd)
    · by_cases e1 : y = x
      · subst e1; rw [hc] at hc'; cases hc'; exact ⟨_, hi'⟩
      · obtain ⟨u, hu⟩ := st.cells y c' hc'; exact ⟨u, hu.sameBut hs' (cell' y c' hc' e1)⟩
    · rw [lookup_put] at hy
      by_cases e1 : y = x
      · rw [if_pos e1] at hy; cases hy
        subst e1
        exact ⟨v, ⟨hx, .inr ⟨.inl hk, c, hc, hi'⟩⟩, Rd.mono (sub_turn (mem_muts_cell hc) hs' (muts_sub hsub)) d r⟩
      · rw [if_neg e1] at hy
        obtain ⟨u, b, r'⟩ := st.e.vars y e hy
        exact ⟨u, ⟨b.1, b.2.imp (fun ⟨a, m2, n2, e2⟩ => ⟨a, m2, n2.sameBut hs' (Ne.symm hcl), e2⟩) fun ⟨a, c', hc', hi⟩ => ⟨a, c', hc', hi.sameBut hs' (cell' y c' hc' e1)⟩⟩,
          r'.turn (mem_muts_cell hc) hs' (muts_sub hsub) (fun q => (st.fo y e _ hy q).2.2 (List.mem_map.mpr ⟨_, mem_of_lookup hc, rfl⟩)) fun a ha => mem_muts_own (mem_owned (x := y) (by rw [lookup_put, if_neg e1]; exact hy) ha)⟩
end Mine
end
section
open PySem PySem.Spec PySem.Calls PyProof.Rows PySem.W
namespace Mine
variable {p : Program} {w : World} {K : Frag} {n : Nat} {env : Env} {σ : Store}

/-- a block: it ends plainly in a store of N, or hands back a datum of R -/
structure X (p : Program) (w : World) (K : Frag) (n : Nat) (env : Env) (σ : Store) (b : List Stmt) (N : Store → Prop) (R : D → Prop) : Prop where
  run : ∀ (B : Base) (O₀ : List Addr) (A : Around) (s : Shared) (Q : Flow → Shared → Prop) (E : Value → Shared → Prop), Ok n A → StS p w K B O₀ env σ s →
    (∀ s' σ', N σ' → StS p w K B O₀ env σ' s' → Q .next s') → (∀ v s' σ' d, R d → StS p w K B O₀ env σ' s' → Rd p w (exc s'.heap O₀) d v → Q (.ret v) s') → wpAny (model p w) A (execs b env) Q E s

theorem muts_base {O₀ : List Addr} : ∀ a ∈ O₀, a ∈ muts env σ O₀ := fun a ha => List.mem_cons_of_mem _ (List.mem_append_right _ (List.mem_append_right _ ha))
variable {N N' : Store → Prop} {R : D → Prop} {rest : List Stmt}
theorem X.nil (h : N σ) : X p w K n env σ [] N R := X.mk fun B O₀ A s Q E ok st hN hR => wpAny_execs_nil (hN s σ h st)
theorem X.ret {e : Expr} {pos : Pos} {d : D} (h : Ev p w K n env σ e d) (hr : R d) : X p w K n env σ (.Return (some e) pos :: rest) N R :=
  X.mk fun B O₀ A s Q E ok st hN hR => wpAny_execs_cons (wpAny_Return_some (h _ A s _ E ok st.e fun v s' y r => hR v s' σ d hr (st.sh y) (Rd.mono (exc_sub muts_base) d r)))
theorem X.assign {e : Expr} {x : Str} {pos pos' : Pos} {d : D} (h : Ev p w K n env σ e d) (hk : env.kindOf x = some .local ∨ env.kindOf x = some .cell) (hx : okName x = true)
    (hs : swapsWith e (some (.Name x pos')) pos.line env = pure false) (hr : X p w K n env (put σ x (.val d)) rest N R) : X p w K n env σ (.Assign [.Name x pos'] e pos :: rest) N R :=
  X.mk fun B O₀ A s Q E ok st hN hR => wpAny_execs_cons (wpAny_Assign_Name (h _ A s _ E ok st.e fun v s' y r => (st.sh y).store hk hx r fun s'' st'' => hr.run B O₀ A s'' Q E ok st'' hN hR) hs)
theorem X.ite {t : Expr} {b : Bool} {body orelse : List Stmt} {pos : Pos} (ht : EvB p w K n env σ t b) (h1 : b = true → X p w K n env σ body N' R) (h2 : b = false → X p w K n env σ orelse N' R)
    (hr : ∀ σ', N' σ' → X p w K n env σ' rest N R) : X p w K n env σ (.If t body orelse pos :: rest) N R :=
  X.mk fun B O₀ A s Q E ok st hN hR => wpAny_execs_cons (wpAny_If (ht _ A s _ E _ ok st.e rfl fun s' y => by
    have st' := st.sh y
    cases b with
    | true => exact (h1 rfl).run B O₀ A s' _ E ok st' (fun s'' σ' h' st'' => (hr σ' h').run B O₀ A s'' Q E ok st'' hN hR) hR
    | false => exact (h2 rfl).run B O₀ A s' _ E ok st' (fun s'' σ' h' st'' => (hr σ' h').run B O₀ A s'' Q E ok st'' hN hR) hR))
theorem X.iteF {t : Expr} {body : List Stmt} {pos : Pos} (ht : EvB p w K n env σ t false) (hr : X p w K n env σ rest N R) : X p w K n env σ (.If t body [] pos :: rest) N R :=
  X.ite (N' := fun σ' => σ' = σ) ht (fun e => by cases e) (fun _ => X.nil rfl) fun σ' e => e ▸ hr

/-- names forgotten, objects frozen -/
theorem StS.weak {B : Base} {O₀ : List Addr} {s : Shared} (st : StS p w K B O₀ env σ s) {σ' : Store} (hn : (σ'.map (·.1)).Nodup)
    (h : ∀ x e, σ'.lookup x = some e → σ.lookup x = some e ∨ ∃ e₀ d, σ.lookup x = some e₀ ∧ e₀.view = some d ∧ e = .val d) : StS p w K B O₀ env σ' s := by
  have hl : ∀ x e a, σ'.lookup x = some e → a ∈ e.own → ∃ e₀, σ.lookup x = some e₀ ∧ a ∈ e₀.own := fun x e a h1 h2 => by
    rcases h x e h1 with h3 | ⟨e₀, d, _, _, rfl⟩
    · exact ⟨e, h3, h2⟩
    · simp [Ent.own] at h2
  have hsub : ∀ a ∈ owned σ', a ∈ owned σ := fun a ha => by
    obtain ⟨x, e, h1, h2⟩ := own_of_mem hn ha
    obtain ⟨e₀, h3, h4⟩ := hl x e a h1 h2
    exact mem_owned h3 h4
  have sb := exc_sub (h := s.heap) (muts_sub (env := env) (O₀ := O₀) hsub)
  refine { st with e := { st.e with bd := fun a ha => st.e.bd a (muts_sub hsub a ha), vars := fun x e hx => ?_ }, fo := ?_, oo := ?_, kd := hn }
  · rcases h x e hx with h1 | ⟨e₀, d, h1, h2, rfl⟩
    · obtain ⟨v, b, r⟩ := st.e.vars x e h1
      refine ⟨v, b, ?_⟩
      cases e with
      | val d => exact Rd.mono sb d r
      | lst a ds => obtain ⟨q, _, o, vs, z1, z2, z3⟩ := r; exact ⟨q, mem_muts_own (mem_owned hx (by simp [Ent.own])), o, vs, z1, z2, z3.mono sb⟩
      | dct a ds => obtain ⟨q, _, o, vs, z1, z2, z3⟩ := r; exact ⟨q, mem_muts_own (mem_owned hx (by simp [Ent.own])), o, vs, z1, z2, z3.mono sb⟩
      | pil a dx f ds => obtain ⟨q, _, _, vs, z1, z3⟩ := r; exact ⟨q, mem_muts_own (mem_owned hx (by simp [Ent.own])), mem_muts_own (mem_owned hx (by simp [Ent.own])), vs, z1, z3.mono sb⟩
    · obtain ⟨v, b, r⟩ := st.e.vars x e₀ h1
      refine ⟨v, b, ?_⟩
      have off : ∀ a, a ∈ e₀.own → a ∉ muts env σ' O₀ := fun a ha hm => by
        obtain ⟨⟨_, f2, _⟩, f4, f5⟩ := st.fo x e₀ a h1 ha
        simp only [muts, List.mem_cons, List.mem_append] at hm
        rcases hm with q | q | q | q
        · exact f4 q
        · exact f5 q
        · obtain ⟨y, e', g1, g2⟩ := own_of_mem hn q
          obtain ⟨e₁, g3, g4⟩ := hl y e' a g1 g2
          have := st.oo x y e₀ e₁ a h1 g3 ha g4
          subst this
          rw [hx] at g1
          cases g1
          simp [Ent.own] at g2
        · exact f2 q
      cases e₀ with
      | val d => simp only [Ent.view, Option.some.injEq] at h2; subst h2; exact Rd.mono sb _ r
      | lst a ds =>
        simp only [Ent.view, Option.some.injEq] at h2; subst h2
        obtain ⟨q, _, o, vs, z1, z2, z3⟩ := r
        simp only [ER, Rd]
        exact ⟨a, o, vs, q, exc_of (off a (by simp [Ent.own])) z1, z2, z3.mono sb⟩
      | dct a ds =>
        simp only [Ent.view, Option.some.injEq] at h2; subst h2
        obtain ⟨q, _, o, vs, z1, z2, z3⟩ := r
        simp only [ER, Rd]
        exact ⟨a, o, vs, q, exc_of (off a (by simp [Ent.own])) z1, z2, z3.mono sb⟩
      | pil a dx f ds => simp only [Ent.view] at h2; cases h2
  · intro x e a h1 h2
    obtain ⟨e₀, h3, h4⟩ := hl x e a h1 h2
    exact st.fo x e₀ a h3 h4
  · intro x y e f a h1 h2 h3 h4
    obtain ⟨e₀, h5, h6⟩ := hl x e a h1 h3
    obtain ⟨f₀, h7, h8⟩ := hl y f a h2 h4
    exact st.oo x y e₀ f₀ a h5 h7 h6 h8
end Mine
end
section
open PySem PySem.Spec PySem.Calls PyProof.Rows PySem.W
namespace Mine
variable {p : Program} {w : World} {K : Frag} {n : Nat} {env : Env} {σ : Store}

/-! truth -/
theorem EvB.not {e : Expr} {b : Bool} {pos : Pos} (h : EvB p w K n env σ e b) : EvB p w K n env σ (.UnaryOp .Not e pos) (!b) :=
  fun O A s Q E whole ok st _ hQ => wpAny_isTrue_Not (h O A s _ E _ ok st rfl hQ)
noncomputable def EvBs (p : Program) (w : World) (K : Frag) (n : Nat) (env : Env) (σ : Store) (op : BoolOp) (es : List Expr) (b : Bool) : Prop :=
  ∀ (O : List Addr) (A : Around) (s : Shared) (Q : Bool → Shared → Prop) (E : Value → Shared → Prop), Ok n A → StE p w K O env σ s → (∀ s', Sh s s' → Q b s') → wpAny (model p w) A (allTrue op es env) Q E s
theorem EvBs.andN : EvBs p w K n env σ .And [] true := fun O A s Q E ok st hQ => wpAny_allTrue_And_nil (hQ s (.refl s))
theorem EvBs.orN : EvBs p w K n env σ .Or [] false := fun O A s Q E ok st hQ => wpAny_allTrue_Or_nil (hQ s (.refl s))
theorem EvBs.andC {e : Expr} {es : List Expr} {a b : Bool} (h : EvB p w K n env σ e a) (hs : a = true → EvBs p w K n env σ .And es b) : EvBs p w K n env σ .And (e :: es) (a && b) :=
  fun O A s Q E ok st hQ => wpAny_allTrue_And_cons (h O A s _ E _ ok st rfl fun s' y => by
    cases a with
    | true => exact hs rfl O A s' Q E ok (st.sh y) fun s'' y' => hQ s'' (y.trans y')
    | false => exact hQ s' y)
theorem EvBs.orC {e : Expr} {es : List Expr} {a b : Bool} (h : EvB p w K n env σ e a) (hs : a = false → EvBs p w K n env σ .Or es b) : EvBs p w K n env σ .Or (e :: es) (a || b) :=
  fun O A s Q E ok st hQ => wpAny_allTrue_Or_cons (h O A s _ E _ ok st rfl fun s' y => by
    cases a with
    | true => exact hQ s' y
    | false => exact hs rfl O A s' Q E ok (st.sh y) fun s'' y' => hQ s'' (y.trans y'))
theorem EvB.ops {op : BoolOp} {es : List Expr} {b : Bool} {pos : Pos} (h : EvBs p w K n env σ op es b) : EvB p w K n env σ (.BoolOp op es pos) b :=
  fun O A s Q E whole ok st _ hQ => wpAny_isTrue_BoolOp (h O A s Q E ok st hQ)
/-- a call, a name: its value's truth -/
theorem EvB.valB {e : Expr} {b : Bool} (h : Ev p w K n env σ e (.bool b)) (he : ∀ whole, isTrue e env whole = (do let v ← whole; standAt e.pos; holding [v] (truthy v))) : EvB p w K n env σ e b :=
  fun O A s Q E whole ok st hw hQ => wpAny_isTrue_value (hw ▸ h O A s _ E ok st fun v s' y r => by cases r; exact wpAny_truthy_bool (hQ s' y)) (he whole)
theorem EvB.valS {e : Expr} {x : Str} (h : Ev p w K n env σ e (.str x)) (hz : x.length ≤ sizeLine) (he : ∀ whole, isTrue e env whole = (do let v ← whole; standAt e.pos; holding [v] (truthy v))) : EvB p w K n env σ e ((x.length : Int) != 0) :=
  fun O A s Q E whole ok st hw hQ => wpAny_isTrue_value (hw ▸ h O A s _ E ok st fun v s' y r => by
    obtain ⟨t, rfl⟩ := r
    have hl : (x.length : Int) ≤ 16777216 := by have := hz; simp only [sizeLine] at this; omega
    exact P.truthy_str (by omega) (hQ _ (y.trans (.tok s' _)))) (he whole)
theorem EvB.valI {e : Expr} {x : Int} (h : Ev p w K n env σ e (.int x)) (he : ∀ whole, isTrue e env whole = (do let v ← whole; standAt e.pos; holding [v] (truthy v))) : EvB p w K n env σ e (x != 0) :=
  fun O A s Q E whole ok st hw hQ => wpAny_isTrue_value (hw ▸ h O A s _ E ok st fun v s' y r => by
    obtain ⟨t, rfl⟩ := r
    exact P.truthy_int (hQ _ y)) (he whole)
theorem Ev.ifx {t e f : Expr} {b : Bool} {d d' : D} {pos : Pos} (ht : EvB p w K n env σ t b) (h1 : b = true → Ev p w K n env σ e d) (h2 : b = false → Ev p w K n env σ f d') :
    Ev p w K n env σ (.IfExp t e f pos) (if b then d else d') := fun O A s Q E ok st hQ => wpAny_IfExp (ht O A s _ E _ ok st rfl fun s' y => by
    cases b with
    | true => exact h1 rfl O A s' Q E ok (st.sh y) fun v s'' y' r => hQ v s'' (y.trans y') r
    | false => exact h2 rfl O A s' Q E ok (st.sh y) fun v s'' y' r => hQ v s'' (y.trans y') r)
theorem Ev.neg {e : Expr} {i : Int} {pos : Pos} (h : Ev p w K n env σ e (.int i)) : Ev p w K n env σ (.UnaryOp .USub e pos) (.int (-i)) :=
  fun O A s Q E ok st hQ => wpAny_UnaryOp (h O A s _ E ok st fun v s' y r => by
    obtain ⟨t, rfl⟩ := r
    exact neg_int (hQ _ _ (y.trans (.tok s' _)) ⟨_, rfl⟩))
/-- and, or of truths, as values -/
theorem Ev.and2 {e f : Expr} {a b : Bool} {pos : Pos} (h : Ev p w K n env σ e (.bool a)) (hs : a = true → Ev p w K n env σ f (.bool b)) : Ev p w K n env σ (.BoolOp .And [e, f] pos) (.bool (a && b)) :=
  fun O A s Q E ok st hQ => wpAny_And2 (h O A s _ E ok st fun v s' y r => by
    cases r
    refine wpAny_truthy_bool ?_
    cases a with
    | true => exact hs rfl O A s' Q E ok (st.sh y) fun v s'' y' r => hQ v s'' (y.trans y') r
    | false => exact hQ _ s' y rfl)
/-! names of the text and of the built-ins -/
/-- the name x tells the value v, always -/
noncomputable def EvG (p : Program) (w : World) (K : Frag) (env : Env) (e : Expr) (v : Value) : Prop :=
  ∀ (O : List Addr) (A : Around) (s : Shared) (σ : Store) (Q : Value → Shared → Prop) (E : Value → Shared → Prop), StE p w K O env σ s → Q v s → wpAny (model p w) A (eval e env) Q E s
theorem EvG.glob {x : Str} {pos : Pos} {v : Value} (hk : env.kindOf x = some .globalImplicit) (h : nsIn K mainGlobals x = some (some v)) (hd : (x == ("__debug__" : Str)) = false) : EvG p w K env (.Name x pos) v :=
  fun O A s σ Q E st hQ => by
    obtain ⟨mg, hg⟩ := st.wd.g
    exact Name_function_global st.kind hk (loadGlobal_global (by rw [st.glob]; exact hg) (mg_of st.wd.kin hg h) hQ) hd
theorem EvG.boot {x : Str} {pos : Pos} {v : Value} (hk : env.kindOf x = some .globalImplicit) (h : nsIn K mainGlobals x = some none) (hb : bootBuiltins x = some v) (hx : x ≠ "__name__") (hd : (x == ("__debug__" : Str)) = false) : EvG p w K env (.Name x pos) v :=
  fun O A s σ Q E st hQ => by
    obtain ⟨mg, hg⟩ := st.wd.g
    obtain ⟨mb, hb', hf⟩ := st.wd.b
    exact Name_function_global st.kind hk (loadGlobal_builtin (by rw [st.glob]; exact hg) (mg_none_of st.wd.kin hg h) (by rw [st.bi]; exact hb') ((hf x hx).trans hb) hQ) hd
/-! calls -/
theorem evArgs {M : Model} {A : Around} {E : Value → Shared → Prop} {s : Shared} {f : Value} {l : List (Bool × Sem Value)} {Q : Args → Shared → Prop} (hns : l.any (·.1) = false) (h : wpAny M A (spliced l) (fun vs s' => Q ⟨vs, []⟩ s') E s) : wpAny M A (evalArgs f true l []) Q E s := by
  cases l with
  | nil =>
    unfold evalArgs
    show wpAny M A (spliced [] >>= _) Q E s
    refine wpAny_bind (wpAny_mono h (fun vs s' h' => wpAny_bind (wpAny_pure ?_)) fun _ _ x => x)
    refine wpAny_holding ?_
    exact wpAny_bind (wpAny_pure (wpAny_bind (wpAny_pure (wpAny_pure h'))))
  | cons z r =>
    obtain ⟨b, x⟩ := z
    simp only [List.any_cons, Bool.or_eq_false_iff] at hns
    obtain ⟨hb, _⟩ := hns
    subst hb
    exact evalArgs_plain h
/-- what a call keeps alive: no matter -/
noncomputable def PlainF (p : Program) (w : World) (K : Frag) (f : Value) : Prop := ∀ h : Heap, K.In h → ∃ k, (k = Keeper.frame ∨ k = Keeper.machine ∨ k = Keeper.boundFrame) ∧ Looks (model p w) h (keeperOf f) k
theorem PlainF.bi {id : String} : PlainF p w K (.builtin id) := fun h _ => ⟨.machine, .inr (.inl rfl), .of_pure rfl⟩
theorem PlainF.ty {id : String} : PlainF p w K (.type id) := fun h _ => ⟨.machine, .inr (.inl rfl), .of_pure rfl⟩
theorem PlainF.k {f : Value} (h : keepIn K f = true) : PlainF p w K f := fun h' X => keeps_K h h' X
theorem evCall {A : Around} {E : Value → Shared → Prop} {s : Shared} {O : List Addr} {x : Str} {fp pos : Pos} {f : Value} {args : List Expr} {Q : Value → Shared → Prop} (st : StE p w K O env σ s) (hf : EvG p w K env (.Name x fp) f) (hk : PlainF p w K f)
    (hns : (backTo pos (starEach args env)).any (·.1) = false) (h : wpAny (model p w) A (spliced (backTo pos (starEach args env))) (fun vs s' => K.In s'.heap ∧ wpAny (model p w) A (call f vs) Q E s') E s) :
    wpAny (model p w) A (eval (.Call (.Name x fp) args [] pos) env) Q E s := by
  rw [arm_eval_Call_Name']
  refine wpAny_bind (hf O A s σ _ E st ?_)
  exact callWith_of (P := K.In) (by rw [hns]; rfl) hk (evArgs hns h)
end Mine
end
section
open PySem PySem.Spec PySem.Calls PyProof.Rows PySem.W
namespace Mine
variable {p : Program} {w : World} {K : Frag} {n : Nat} {env : Env} {σ : Store}

/-- the function at f, on data ds, gives r -/
noncomputable def Fn (p : Program) (w : World) (K : Frag) (n : Nat) (f : Addr) (ds : List D) (r : D) : Prop :=
  ∀ (O : List Addr) (A : Around) (s : Shared) (vs : List Value) (R : Result → Shared → Prop), Ok n A → StO p w K O s → RdL p w (exc s.heap O) ds vs →
    (∀ v s', Sh s s' → Rd p w (exc s'.heap O) r v → R (.ok (.ret v)) s') → codeAny (model p w) A (.call (.ref f) ⟨vs, []⟩) R s
structure FnIn (K : Frag) (f : Addr) (fd : FuncData) : Prop where
  obj : ∃ c d sl, K.lookup f = some ⟨c, d, .func fd, sl⟩
  code : ∃ c oc vs t, fd.code = .ref c ∧ K.lookup c = some oc ∧ oc.data = .fields vs ∧ vs[1]? = some (.str fd.qualname t)
theorem FnIn.keep {f : Addr} {fd : FuncData} (h : FnIn K f fd) : keepIn K (.ref f) = true := by
  obtain ⟨c, d, sl, e⟩ := h.obj
  simp only [keepIn, e]
theorem FnIn.cdr {f : Addr} {fd : FuncData} (hf : FnIn K f fd) {h : Heap} (X : K.In h) : h.CodeRec fd.code fd.qualname := by
  obtain ⟨c, oc, vs, t, e1, e2, e3, e4⟩ := hf.code
  exact ⟨c, oc, vs, t, e1, X _ _ e2, e3, e4⟩

theorem StO.hi {O : List Addr} {s : Shared} (st : StO p w K O s) : lowN ≤ s.heap.objs.size := by
  obtain ⟨o, e⟩ := st.wd.kok.top
  exact Heap.lt_size (st.wd.kin _ _ e)
theorem StO.gone {O : List Addr} {s : Shared} (st : StO p w K O s) {a : Addr} (h : s.heap.objs.size ≤ a) : s.heap.get? a = none ∧ a ∉ O ∧ lowN ≤ a := by
  have lt : ∀ o, s.heap.get? a ≠ some o := fun o e => absurd (Heap.lt_size e) (Nat.not_lt.mpr h)
  refine ⟨?_, fun hm => ?_, Nat.le_trans st.hi h⟩
  · cases e : s.heap.get? a with
    | none => rfl
    | some o => exact absurd e (lt o)
  · obtain ⟨_, _, o, ho⟩ := st.bd a hm
    exact lt o ho

theorem zipLook {g : Look} {x : Str} {e : Ent} : ∀ {names : List Str} {ds : List D} {vs : List Value}, RdL p w g ds vs → (names.zip (ds.map Ent.val)).lookup x = some e → ∃ d v, e = .val d ∧ (x, v) ∈ names.zip vs ∧ Rd p w g d v
  | [], ds, vs, _, h => by simp at h
  | y :: ns, [], vs, _, h => by simp at h
  | y :: ns, d :: ds, vs, r, h => by
    simp only [RdL] at r
    obtain ⟨v, vs', rfl, h1, h2⟩ := r
    simp only [List.map_cons, List.zip_cons_cons, List.lookup_cons] at h
    by_cases q : x = y
    · subst q
      simp at h
      exact ⟨d, v, h.symm, by simp, h1⟩
    · have : (x == y) = false := by simpa using q
      rw [this] at h
      obtain ⟨d', v', e1, e2, e3⟩ := zipLook h2 h
      exact ⟨d', v', e1, by simp only [List.zip_cons_cons]; exact List.mem_cons_of_mem _ e2, e3⟩
theorem bindL_off {k : Str → Option NameKind} {x : Str} : ∀ {binds : List (Str × Value)} {m : Str → Option Value}, x ∉ binds.map (·.1) → bindL k binds m x = m x
  | [], m, _ => rfl
  | (y, v) :: r, m, h => by
    simp only [List.map_cons, List.mem_cons, not_or] at h
    unfold bindL
    rw [bindL_off h.2]
    split
    · simp [h.1]
    · rfl
theorem bindL_on {k : Str → Option NameKind} {x : Str} {v : Value} (hk : k x = some .local) : ∀ {binds : List (Str × Value)} {m : Str → Option Value}, (binds.map (·.1)).Nodup → (x, v) ∈ binds → bindL k binds m x = some v
  | [], m, _, h => by cases h
  | (y, u) :: r, m, hn, h => by
    rw [List.map_cons, List.nodup_cons] at hn
    unfold bindL
    rcases List.mem_cons.mp h with h | h
    · cases h
      rw [bindL_off hn.1, if_pos hk]; simp
    · exact bindL_on hk hn.2 h
theorem bindC_off {k : Str → Option NameKind} {x : Str} : ∀ {binds : List (Str × Value)} {m : Str → Option Value}, x ∉ binds.map (·.1) → bindC k binds m x = m x
  | [], m, _ => rfl
  | (y, v) :: r, m, h => by
    simp only [List.map_cons, List.mem_cons, not_or] at h
    unfold bindC
    rw [bindC_off h.2]
    split
    · rfl
    · simp [h.1]
theorem bindC_on {k : Str → Option NameKind} {x : Str} {v : Value} (hk : k x ≠ some .local) : ∀ {binds : List (Str × Value)} {m : Str → Option Value}, (binds.map (·.1)).Nodup → (x, v) ∈ binds → bindC k binds m x = some v
  | [], m, _, h => by cases h
  | (y, u) :: r, m, hn, h => by
    rw [List.map_cons, List.nodup_cons] at hn
    unfold bindC
    rcases List.mem_cons.mp h with h | h
    · cases h
      rw [bindC_off hn.1, if_neg hk]; simp
    · exact bindC_on hk hn.2 h
theorem owned_vals (ns : List Str) (ds : List D) : owned (ns.zip (ds.map Ent.val)) = [] := by
  unfold owned
  rw [List.flatMap_eq_nil_iff]
  rintro ⟨x, e⟩ h
  have := (List.of_mem_zip h).2
  obtain ⟨d, _, rfl⟩ := List.mem_map.mp this
  rfl
theorem map_zip_fst {α β : Type} : ∀ (xs : List α) (ys : List β), xs.length = ys.length → (xs.zip ys).map (·.1) = xs
  | [], _, _ => rfl
  | x :: xs, [], h => by simp at h
  | x :: xs, y :: ys, h => by simp only [List.zip_cons_cons, List.map_cons]; rw [map_zip_fst xs ys (by simpa using h)]

theorem lookMem {α : Type} {l : List (Str × α)} {x : Str} {e : α} (hn : (l.map (·.1)).Nodup) (h : (x, e) ∈ l) : l.lookup x = some e := by
  induction l with
  | nil => cases h
  | cons z r ih =>
    obtain ⟨z, f⟩ := z
    rw [List.map_cons, List.nodup_cons] at hn
    rw [List.lookup_cons]
    rcases List.mem_cons.mp h with h | h
    · cases h; simp
    · have : x ≠ z := fun q => hn.1 (q ▸ List.mem_map.mpr ⟨_, h, rfl⟩)
      have : (x == z) = false := by simpa using this
      rw [this]; exact ih hn.2 h
theorem cells_names : ∀ (names : List (Str × NameKind)) (a b : Nat) (acc acc' : List (Str × Addr)), acc.map (·.1) = acc'.map (·.1) → (cellsFrom a names acc).map (·.1) = (cellsFrom b names acc').map (·.1)
  | [], _, _, _, _, h => h
  | (x, k) :: r, a, b, acc, acc', h => by
    unfold cellsFrom
    split
    · exact cells_names r _ _ _ _ (by simp [h])
    · exact cells_names r _ _ _ _ h
theorem Fn.intro {f : Addr} {fd : FuncData} {body : List Stmt} {names : List Str} {ds : List D} {r : D} (hf : FnIn K f fd) (hbody : fd.body = .stmts body) (hclo : fd.closure = []) (hgl : fd.globals = mainGlobals) (hbi : fd.builtins = builtinsNs)
    (hkd : fd.scope.kind = .function) (hco : fd.scope.isCoroutine = false) (hgen : fd.scope.isGenerator = false) (hbind : ∀ vs : List Value, vs.length = names.length → bindArgs fd ⟨vs, []⟩ = pure (names.zip vs)) (hlen : ds.length = names.length)
    (hnd : names.Nodup) (hok : names.all okName = true) (hkind : ∀ x ∈ names, fd.scope.names.lookup x = some .local ∨ fd.scope.names.lookup x = some .cell) (hcn : ((cellsFrom 0 fd.scope.names []).map (·.1)).Nodup)
    (h : ∀ L, X p w K n (callEnvC fd L f) (names.zip (ds.map .val)) body (fun _ => r = .none) (· = r)) : Fn p w K (n + 1) f ds r := by
  intro O A s vs R ok st rl hR
  have hvl : vs.length = names.length := by rw [← rl.length, hlen]
  obtain ⟨c₀, d₀, sl₀, ho⟩ := hf.obj
  have hbn : ((names.zip vs).map (·.1)).Nodup := by rw [map_zip_fst names vs hvl.symm]; exact hnd
  have hcs : ∀ x, fd.scope.names.lookup x = some .cell → ((cellsFrom (s.heap.objs.size + 1) fd.scope.names []).lookup x).isSome = true := fun x hx => cellsFrom_some _ _ _ (.inl hx)
  refine codeAny_call_cells (fd := fd) ok.room (st.wd.kin _ _ ho) rfl st.wd.lim (hf.cdr st.wd.kin) hbody (hbind vs hvl) hclo (fun y hy => ?_) (fun s₁ x => ?_) hco hgen hkd
  · rcases hkind y.1 (List.of_mem_zip (a := y.1) (b := y.2) hy).1 with q | q
    · exact .inl q
    · exact .inr ⟨q, hcs _ q⟩
  · obtain ⟨h₁, tk, rfl⟩ := x.toInCall.same
    have k1 : Kp s.heap h₁ := .of x.toInCall.keep
    have y1 : Sh s { s with heap := h₁, toks := tk } := .mk' k1
    have st1 := st.sh y1
    generalize hE : callEnvC fd s.heap.objs.size f = env at x ⊢
    have hL : env.locals = s.heap.objs.size := by rw [← hE]; rfl
    have hkof : ∀ z, env.kindOf z = fd.scope.names.lookup z := by rw [← hE]; intro z; rfl
    have gL := st.gone (a := env.locals) (by rw [hL]; exact Nat.le_refl _)
    have gC : ∀ z c, (z, c) ∈ env.cells → s.heap.get? c = none ∧ c ∉ O ∧ lowN ≤ c := fun z c hc => st.gone (by have := x.above z c hc; rw [hL] at this; exact Nat.le_of_lt this)
    have low : ∀ a, lowN ≤ a → a ≠ tA ∧ a ≠ tB := fun a ha => ⟨fun q => by rw [q] at ha; exact absurd ha (by decide), fun q => by rw [q] at ha; exact absurd ha (by decide)⟩
    have kindC : ∀ z, env.kindOf z = some .cell → ∃ c, env.cells.lookup z = some c := fun z hz => by
      rw [hkof] at hz
      have := hcs z hz
      rw [Option.isSome_iff_exists] at this
      obtain ⟨c, hc⟩ := this
      exact ⟨c, by rw [← hE]; exact hc⟩
    have st0 : StS p w K ⟨s.heap.get?, s.os, s.gens⟩ O env (names.zip (ds.map .val)) { s with heap := h₁, toks := tk } := by
      refine { e := { wd := st1.wd, bd := fun a ha => ?_, kind := by rw [← hE]; exact hkd, glob := by rw [← hE]; exact hgl, bi := by rw [← hE]; exact hbi, vars := fun z e hz => ?_ }
               keep := k1, os := rfl, gens := id, ns := ⟨_, x.toInCall.ns⟩, cells := fun z c hc => ⟨_, x.cell z c hc⟩, cellk := kindC
               fl := gL
               fc := fun z c hc => ⟨gC z c (mem_of_lookup hc), Nat.ne_of_gt (x.above z c (mem_of_lookup hc))⟩
               cc := fun z y c h1 h2 => name_of_addr x.apart (mem_of_lookup h1) (mem_of_lookup h2)
               fo := fun z e a h1 h2 => ?_, oo := fun z y e f a h1 h2 h3 h4 => ?_
               kd := by rw [map_zip_fst _ _ (by rw [List.length_map, hlen])]; exact hnd }
      · unfold muts at ha
        rw [owned_vals, List.nil_append] at ha
        rcases List.mem_cons.mp ha with q | ha
        · obtain ⟨o, _, _, ho', _⟩ := x.toInCall.ns
          exact ⟨(low a (q ▸ gL.2.2)).1, (low a (q ▸ gL.2.2)).2, o, q ▸ ho'⟩
        · rcases List.mem_append.mp ha with ha | ha
          · obtain ⟨⟨z, c⟩, hz, rfl⟩ := List.mem_map.mp ha
            refine ⟨(low c (gC z c hz).2.2).1, (low c (gC z c hz).2.2).2, ?_⟩
            have hz' : env.cells.lookup z = some c := lookMem (by rw [← hE]; show ((cellsFrom _ fd.scope.names []).map (·.1)).Nodup; rw [cells_names fd.scope.names _ 0 [] [] rfl]; exact hcn) hz
            obtain ⟨o, ho', _⟩ := x.cell z c hz'
            exact ⟨o, ho'⟩
          · exact st1.bd a ha
      · obtain ⟨d, v, rfl, hm, rv⟩ := zipLook rl hz
        have hzn := (List.of_mem_zip hm).1
        have ok1 : okName z = true := List.all_eq_true.mp hok z hzn
        refine ⟨v, ⟨ok1, ?_⟩, ?_⟩
        · rcases hkind z hzn with q | q
          · have q' : env.kindOf z = some .local := (hkof z).trans q
            exact .inl ⟨q', _, x.toInCall.ns, bindL_on q' hbn hm⟩
          · have q' : env.kindOf z = some .cell := (hkof z).trans q
            obtain ⟨c, hc⟩ := kindC z q'
            refine .inr ⟨.inl q', c, hc, ?_⟩
            have := x.cell z c hc
            rwa [bindC_on (by rw [q']; decide) hbn hm] at this
        · have sb1 := st.wd.sub k1 O
          refine Rd.mono (fun a o e c => ?_) d rv
          obtain ⟨e1, e2⟩ := exc_get e
          refine exc_of (fun hm' => ?_) (x.toInCall.keep _ _ e2)
          unfold muts at hm'
          rw [owned_vals, List.nil_append] at hm'
          rcases List.mem_cons.mp hm' with q | hm'
          · rw [q, gL.1] at e2; cases e2
          · rcases List.mem_append.mp hm' with hm' | hm'
            · obtain ⟨⟨z', c'⟩, hz', rfl⟩ := List.mem_map.mp hm'
              rw [(gC z' c' hz').1] at e2; cases e2
            · exact e1 hm'
      · obtain ⟨d, v, rfl, _, _⟩ := zipLook rl h1
        simp [Ent.own] at h2
      · obtain ⟨d, v, rfl, _, _⟩ := zipLook rl h1
        simp [Ent.own] at h3
    have hX := h s.heap.objs.size
    rw [hE] at hX
    refine hX.run _ O _ _ _ _ (ok.deeper _) st0 (fun s' σ' hr st' => ?_) fun v s' σ' d hd st' rd => ?_
    · subst hr
      exact hR .none s' ⟨st'.keep, st'.os, st'.gens⟩ rfl
    · subst hd
      exact hR v s' ⟨st'.keep, st'.os, st'.gens⟩ rd
end Mine
end
section
open PySem PySem.Spec PySem.Calls PyProof.Rows PySem.W
namespace Mine
variable {p : Program} {w : World} {K : Frag} {n : Nat} {env : Env} {σ : Store}

/-- a call of a function of the text -/
theorem Ev.callF {x : Str} {fp pos : Pos} {args : List Expr} {f : Addr} {ds : List D} {r : D} (hg : EvG p w K env (.Name x fp) (.ref f)) (hk : keepIn K (.ref f) = true) (ha : EvLs p w K n env σ args ds)
    (hns : (backTo pos (starEach args env)).any (·.1) = false) (hf : Fn p w K n f ds r) : Ev p w K n env σ (.Call (.Name x fp) args [] pos) r := fun O A s Q E ok st hQ =>
  evCall st hg (.k hk) hns (ha O A s _ E pos ok st fun vs s' y rl => ⟨(st.sh y).wd.kin, wpAny_call (hf O A s' vs _ ok (st.sh y).toStO rl fun v s'' y' rv => hQ v s'' (y.trans y') rv)⟩)
/-- a built-in function upon one thing -/
noncomputable def FunV (p : Program) (w : World) (K : Frag) (n : Nat) (f : Value) (a d : D) : Prop :=
  ∀ (O : List Addr) (A : Around) (s : Shared) (x : Value) (Q : Value → Shared → Prop) (E : Value → Shared → Prop), Ok n A → StO p w K O s → RdV p w s.heap O a x → (∀ v s', Sh s s' → Rd p w (exc s'.heap O) d v → Q v s') →
    wpAny (model p w) A (call f [x]) Q E s
theorem Ev.call1 {x : Str} {fp pos : Pos} {arg : Expr} {f : Value} {a d : D} (hg : EvG p w K env (.Name x fp) f) (hk : PlainF p w K f) (ha : EvV p w K n env σ arg a) (hf : FunV p w K n f a d)
    (he : starEach [arg] env = (false, eval arg env) :: starEach [] env := by rfl) (hns : (backTo pos (starEach [arg] env)).any (·.1) = false := by rfl) : Ev p w K n env σ (.Call (.Name x fp) [arg] [] pos) d := fun O A s Q E ok st hQ =>
  evCall st hg hk hns (spliced_more (ha O A s _ E ok st fun v s' y r => spliced_none ⟨(st.sh y).wd.kin, hf O A s' v Q E ok (st.sh y).toStO r fun u s'' y' r' => hQ u s'' (y.trans y') r'⟩) he)
/-- a built-in function upon some things -/
noncomputable def FunL (p : Program) (w : World) (K : Frag) (n : Nat) (f : Value) (ds : List D) (d : D) : Prop :=
  ∀ (O : List Addr) (A : Around) (s : Shared) (vs : List Value) (Q : Value → Shared → Prop) (E : Value → Shared → Prop), Ok n A → StO p w K O s → RdL p w (exc s.heap O) ds vs → (∀ v s', Sh s s' → Rd p w (exc s'.heap O) d v → Q v s') →
    wpAny (model p w) A (call f vs) Q E s
theorem Ev.callL {x : Str} {fp pos : Pos} {args : List Expr} {f : Value} {ds : List D} {d : D} (hg : EvG p w K env (.Name x fp) f) (hk : PlainF p w K f) (ha : EvLs p w K n env σ args ds)
    (hns : (backTo pos (starEach args env)).any (·.1) = false) (hf : FunL p w K n f ds d) : Ev p w K n env σ (.Call (.Name x fp) args [] pos) d := fun O A s Q E ok st hQ =>
  evCall st hg hk hns (ha O A s _ E pos ok st fun vs s' y rl => ⟨(st.sh y).wd.kin, hf O A s' vs Q E ok (st.sh y).toStO rl fun v s'' y' rv => hQ v s'' (y.trans y') rv⟩)

theorem FunV.lenL {ds : List D} (hz : ds.length ≤ sizeLine) : FunV p w K n (.builtin "len") (.list ds) (.int ds.length) := by
  rintro O A s _ Q E ok st ⟨a, o, vs, rfl, ho, hl, r⟩ hQ
  have e := r.length
  refine len_list (hl.isList ho) (by rw [List.size_toArray, ← e]; have := hz; simp only [sizeLine] at this; omega) ?_
  rw [List.size_toArray, ← e]
  exact hQ _ _ (.tok s _) ⟨_, rfl⟩
theorem FunV.lenS {x : Str} (hz : x.length ≤ sizeLine) : FunV p w K n (.builtin "len") (.str x) (.int x.length) := by
  rintro O A s _ Q E ok st ⟨t, rfl⟩ hQ
  exact len_str (by have := hz; simp only [sizeLine] at this; omega) (hQ _ _ (.tok s _) ⟨_, rfl⟩)
theorem FunV.abs {a : Int} : FunV p w K n (.builtin "abs") (.int a) (.int (if a < 0 then -a else a)) := by
  rintro O A s _ Q E ok st ⟨t, rfl⟩ hQ
  exact call_abs_int fun u tk => hQ _ _ (.tok s _) ⟨_, rfl⟩
theorem FunV.int {a : Int} : FunV p w K n (.type "int") (.int a) (.int a) := by
  rintro O A s _ Q E ok st ⟨t, rfl⟩ hQ
  exact call_int_int (hQ _ _ (.refl s) ⟨_, rfl⟩)

theorem RdL.intAt {g : Look} : ∀ {ns : List Int} {vs : List Value} {i : Nat} {v : Value}, RdL p w g (ns.map .int) vs → vs[i]? = some v → ∃ t, v = .int (ns.getD i 0) t
  | [], vs, i, v, r, h => by simp only [List.map_nil, RdL] at r; subst r; simp at h
  | a :: ns, vs, i, v, r, h => by
    simp only [List.map_cons, RdL, Rd] at r
    obtain ⟨u, vs', rfl, ⟨t, rfl⟩, h2⟩ := r
    cases i with
    | zero => simp at h; subst h; exact ⟨t, by simp⟩
    | succ i =>
      obtain ⟨t', e⟩ := RdL.intAt (i := i) h2 (by simpa using h)
      exact ⟨t', by simpa using e⟩
theorem preSum_take (ns : List Int) : ∀ k, k ≤ ns.length → preSum (fun i => ns.getD i 0) k = (ns.take k).sum
  | 0, _ => by simp [preSum]
  | k + 1, h => by
    have hk : k < ns.length := h
    unfold preSum
    rw [preSum_take ns k (by omega), List.take_add_one, List.sum_append]
    simp [hk]
theorem FunV.sumL {ns : List Int} : FunV p w K n (.builtin "sum") (.list (ns.map .int)) (.int ns.sum) := by
  rintro O A s _ Q E ok st ⟨a, o, vs, rfl, ho, hl, r⟩ hQ
  have e : vs.length = ns.length := by rw [← r.length, List.length_map]
  have hL := hl.isList ho
  have hne : a ≠ s.heap.objs.size := Nat.ne_of_lt (Heap.lt_size ho)
  refine call_sum_walkG (wpAny_pyIter_list hL ?_)
  refine ⟨_, [s.heap.objs.size, a], [s.heap.objs.size], _, _, _, fun i => ns.getD i 0, rfl, Walks.list (A := A.in1) ok.hand _ a hne vs.toArray, ⟨⟨_, Heap.get?_push_size _ rfl, rfl, rfl⟩, hL.push _⟩, fun b hb => ?_, fun i v hv => r.intAt (by simpa using hv), fun h' tk t' hk => ?_⟩
  · show b < (s.heap.push _).objs.size
    rw [Heap.size_push]
    rcases List.mem_cons.mp hb with rfl | hb
    · exact Nat.lt_succ_self _
    · rcases List.mem_cons.mp hb with rfl | hb
      · exact Nat.lt_succ_of_lt (Heap.lt_size ho)
      · cases hb
  · rw [List.size_toArray, e, preSum_take ns _ (Nat.le_refl _), List.take_length]
    refine hQ _ _ (.mk' (.of fun b o' e' => hk b o' (fun hm => ?_) (Heap.get?_push_of_some _ e'))) ⟨_, rfl⟩
    rw [List.mem_singleton.mp hm] at e'
    exact Nat.lt_irrefl _ (Heap.lt_size e')
theorem FunL.max2 {a b : Int} : FunL p w K n (.builtin "max") [.int a, .int b] (.int (if b > a then b else a)) := by
  intro O A s vs Q E ok st r hQ
  simp only [RdL, Rd] at r
  obtain ⟨_, _, rfl, ⟨t, rfl⟩, _, _, rfl, ⟨u, rfl⟩, rfl⟩ := r
  refine max_two_ints ok.hand fun h' tk hk => hQ _ _ (.mk' (.of hk)) ?_
  split
  · exact ⟨_, rfl⟩
  · exact ⟨_, rfl⟩
/-- the greatest -/
noncomputable def maxI (ns : List Int) : Int := ns.getD (argBest (fun i j => decide (ns.getD i 0 > ns.getD j 0)) (ns.length - 1)) 0
theorem FunV.maxL {ns : List Int} (h0 : 0 < ns.length) : FunV p w K n (.builtin "max") (.list (ns.map .int)) (.int (maxI ns)) := by
  rintro O A s _ Q E ok st ⟨a, o, vs, rfl, ho, hl, r⟩ hQ
  have e : vs.length = ns.length := by rw [← r.length, List.length_map]
  have hL := hl.isList ho
  have hne : a ≠ s.heap.objs.size := Nat.ne_of_lt (Heap.lt_size ho)
  refine call_max_walkS (wpAny_pyIter_list hL ?_)
  refine ⟨_, [s.heap.objs.size, a], [s.heap.objs.size], _, _, _, _, fun i j => decide (ns.getD i 0 > ns.getD j 0), rfl, (Walks.list (A := A.in1) ok.hand _ a hne vs.toArray).toS, ⟨⟨_, Heap.get?_push_size _ rfl, rfl, rfl⟩, hL.push _⟩, fun b hb => ?_, by rw [List.size_toArray, e]; exact h0,
    CmpOf.ints_gt (fun i => ns.getD i 0) (fun i v hv => r.intAt (by simpa using hv)), fun v s' hv hm => ?_⟩
  · show b < (s.heap.push _).objs.size
    rw [Heap.size_push]
    rcases List.mem_cons.mp hb with rfl | hb
    · exact Nat.lt_succ_self _
    · rcases List.mem_cons.mp hb with rfl | hb
      · exact Nat.lt_succ_of_lt (Heap.lt_size ho)
      · cases hb
  · rw [List.size_toArray, e] at hv
    obtain ⟨t, rfl⟩ := r.intAt (ns := ns) (by simpa using hv)
    refine hQ _ _ ⟨.of fun b o' e' => hm.heap b o' (fun hh => ?_) (Heap.get?_push_of_some _ e'), hm.os, fun g => ?_⟩ ⟨_, rfl⟩
    · rw [List.mem_singleton.mp hh] at e'
      exact Nat.lt_irrefl _ (Heap.lt_size e')
    · have := hm.gens
      rw [this]; exact g

/-! methods of built-in types -/
noncomputable def tyOf : D → String
  | .str _ => "str"
  | .bytes _ => "bytes"
  | .list _ => "list"
  | .dict _ => "dict"
  | _ => ""
theorem tyOf_of {s : Shared} {O : List Addr} {d : D} {v : Value} (h : RdV p w s.heap O d v) (ht : tyOf d ≠ "") : s.TypeIs v (tyOf d) ∧ ∀ a, v = .ref a → ∃ ob, s.heap.get? a = some ob ∧ ob.dict = none := by
  cases d with
  | str x => obtain ⟨t, rfl⟩ := h; exact ⟨typeIs_str s x t, fun a e => by cases e⟩
  | bytes x => obtain ⟨t, rfl⟩ := h; exact ⟨typeIs_bytes s x t, fun a e => by cases e⟩
  | list ds =>
    obtain ⟨a, o, vs, rfl, ho, hl, _⟩ := h
    refine ⟨(hl.isList ho).typeIs, fun b e => ?_⟩
    cases e
    obtain ⟨n, rfl⟩ := hl
    exact ⟨_, ho, rfl⟩
  | dict ks =>
    obtain ⟨a, o, vs, rfl, ho, hl, _⟩ := h
    exact ⟨(hl.at ho).typeIs, fun b e => by cases e; obtain ⟨_, es, ep, hx, _⟩ := hl; exact ⟨_, ho, hx.2.1⟩⟩
  | none => exact absurd rfl ht
  | bool b => exact absurd rfl ht
  | int b => exact absurd rfl ht
  | tup b => exact absurd rfl ht
noncomputable def MethV (p : Program) (w : World) (K : Frag) (n : Nat) (id : String) (a : D) (ds : List D) (d : D) : Prop :=
  ∀ (O : List Addr) (A : Around) (s : Shared) (x : Value) (vs : List Value) (Q : Value → Shared → Prop) (E : Value → Shared → Prop), Ok n A → StO p w K O s → RdV p w s.heap O a x → RdL p w (exc s.heap O) ds vs →
    (∀ v s', Sh s s' → Rd p w (exc s'.heap O) d v → Q v s') → wpAny (model p w) A (call (.builtin id) (x :: vs)) Q E s
theorem Ev.meth {o : Expr} {name : Str} {apos pos : Pos} {args : List Expr} {id : String} {a d : D} {ds : List D} (pa : PlainAttrs (tyOf a)) (slot : Slot (tyOf a) name id) (hty : typeOf (.builtin id) = pure (.type "method_descriptor")) (ho : EvV p w K n env σ o a)
    (hargs : EvLs p w K n env σ args ds) (hm : MethV p w K n id a ds d) (hbase : attributeBase o name env (eval o env) = eval o env)
    (hfew : ((backTo pos (starEach args env)).all (fun x => !x.1) && (backToKw pos (keywordEach [] env)).all (fun x => x.1.isSome) && decide (args.length + ([] : List Keyword).length + (if ([] : List Keyword).isEmpty then 0 else 1) < 30)) = true)
    (hns : (backTo pos (starEach args env)).any (·.1) = false) (hline : (apos.endLine == pos.line) = true) (ht : tyOf a ≠ "") : Ev p w K n env σ (.Call (.Attribute o name apos) args [] pos) d := fun O A s Q E ok st hQ => by
  refine wpAny_Call_method hbase hfew hline pa slot hty (ho O A s _ E ok st fun ov s₁ y₁ r₁ => ?_)
  have st₁ := st.sh y₁
  have tt := tyOf_of r₁ ht
  refine ⟨tt.1, tt.2, ?_⟩
  refine callWith_of (P := K.In) (by rw [hns]; rfl) (PlainF.bi (p := p) (w := w)) (evArgs hns (hargs O A s₁ _ E pos ok st₁ fun vs s₂ y₂ r₂ => ⟨(st₁.sh y₂).wd.kin, ?_⟩))
  exact hm O A s₂ ov vs Q E ok (st₁.sh y₂).toStO (r₁.sh st₁.wd y₂) r₂ fun v s₃ y₃ r₃ => hQ v s₃ ((y₁.trans y₂).trans y₃) r₃
end Mine
end
section
open PySem PySem.Spec PySem.Calls PyProof.Rows PySem.W
namespace Mine
variable {p : Program} {w : World} {K : Frag} {n : Nat} {env : Env} {σ : Store}

noncomputable def del (σ : Store) (x : Str) : Store := σ.filter fun z => !(z.1 == x)
theorem lookup_del (σ : Store) (x y : Str) : (del σ x).lookup y = if y = x then none else σ.lookup y := by
  unfold del
  induction σ with
  | nil => simp
  | cons z r ih =>
    obtain ⟨z, f⟩ := z
    rw [List.filter_cons]
    by_cases hz : z = x
    · subst hz
      simp only [beq_self_eq_true, Bool.not_true, Bool.false_eq_true, if_false]
      rw [ih, List.lookup_cons]
      by_cases hy : y = z
      · simp [hy]
      · have : (y == z) = false := by simpa using hy
        simp [hy, this]
    · have : (z == x) = false := by simpa using hz
      simp only [this, Bool.not_false, if_true]
      rw [List.lookup_cons, List.lookup_cons, ih]
      by_cases hy : y = z
      · subst hy; simp [hz]
      · have h2 : (y == z) = false := by simpa using hy
        simp [h2]
theorem del_nodup {x : Str} (h : (σ.map (·.1)).Nodup) : ((del σ x).map (·.1)).Nodup := h.sublist (List.Sublist.map _ List.filter_sublist)
theorem owned_of {σ σ' : Store} (hn : (σ'.map (·.1)).Nodup) (h : ∀ x e a, σ'.lookup x = some e → a ∈ e.own → ∃ y e₀, σ.lookup y = some e₀ ∧ a ∈ e₀.own) : ∀ a ∈ owned σ', a ∈ owned σ := fun a ha => by
  obtain ⟨x, e, h1, h2⟩ := own_of_mem hn ha
  obtain ⟨y, e₀, h3, h4⟩ := h x e a h1 h2
  exact mem_owned h3 h4

/-- a name is bound; what it was is forgotten -/
theorem StS.bind {B : Base} {O₀ : List Addr} {s : Shared} {M : Model} {A : Around} {E : Value → Shared → Prop} (st : StS p w K B O₀ env σ s) {x : Str} {v : Value} {Q : Unit → Shared → Prop}
    (hk : env.kindOf x = some .local ∨ env.kindOf x = some .cell) (hx : okName x = true)
    (hQ : ∀ s', StS p w K B O₀ env (del σ x) s' → Bnd env s'.heap x v → (∀ b o, b ≠ env.locals → b ∉ env.cells.map (·.2) → s.heap.get? b = some o → s'.heap.get? b = some o) → Q () s') : wpAny M A (storeName env x v) Q E s := by
  have hl : ∀ y e a, (del σ x).lookup y = some e → a ∈ e.own → ∃ e₀, σ.lookup y = some e₀ ∧ a ∈ e₀.own := fun y e a h1 h2 => by
    rw [lookup_del] at h1
    by_cases hy : y = x
    · rw [if_pos hy] at h1; cases h1
    · rw [if_neg hy] at h1; exact ⟨e, h1, h2⟩
  have hsub : ∀ a ∈ owned (del σ x), a ∈ owned σ := owned_of (del_nodup st.kd) fun y e a h1 h2 => ⟨y, hl y e a h1 h2⟩
  have hp : (env.scope.kind == .class || (env.scope.kind == .module && env.locals != env.globals)) = false := by rw [st.e.kind]; rfl
  obtain ⟨m, hn⟩ := st.ns
  rcases hk with hk | hk
  · refine wpAny_storeName_local hk hn (fun h' hn' hs' => hQ _ ?_ ⟨hx, .inl ⟨hk, _, hn', by simp⟩⟩ fun b o hb _ e => (hs'.2 b hb).trans e) hp
    refine st.turn mem_muts_loc ⟨st.fl.1, st.fl.2.2⟩ hs' (let ⟨o, _, _, ho, _⟩ := hn'; ⟨o, ho⟩) hsub ⟨_, hn'⟩ (fun y c hc => let ⟨u, hu⟩ := st.cells y c hc; ⟨u, hu.sameBut hs' (st.fc y c hc).2⟩) (fun y e hy => ?_) hl (del_nodup st.kd)
    rw [lookup_del] at hy
    by_cases e1 : y = x
    · rw [if_pos e1] at hy; cases hy
    · rw [if_neg e1] at hy
      obtain ⟨u, b, r'⟩ := st.e.vars y e hy
      refine ⟨u, ⟨b.1, b.2.imp (fun ⟨a, m2, n2, e2⟩ => ⟨a, _, hn', ?_⟩) fun ⟨a, c, hc, hi⟩ => ⟨a, c, hc, hi.sameBut hs' (st.fc y c hc).2⟩⟩, r'.turn mem_muts_loc hs' (muts_sub hsub) (fun q => (st.fo y e _ hy q).2.1 rfl) fun a ha => mem_muts_own (mem_owned (x := y) (by rw [lookup_del, if_neg e1]; exact hy) ha)⟩
      rw [ns_unique n2 hn] at e2
      simp [e1, e2]
  · obtain ⟨c, hc⟩ := st.cellk x hk
    obtain ⟨u₀, hu₀⟩ := st.cells x c hc
    refine wpAny_storeName_cell st.e.kind hk hc hu₀ fun h' hi' hs' => hQ _ ?_ ⟨hx, .inr ⟨.inl hk, c, hc, hi'⟩⟩ fun b o _ hb e => (hs'.2 b fun q => hb (q ▸ List.mem_map.mpr ⟨_, mem_of_lookup hc, rfl⟩)).trans e
    have hcl := (st.fc x c hc).2
    have cell' : ∀ y c', env.cells.lookup y = some c' → y ≠ x → c' ≠ c := fun y c' h1 h2 q => h2 (st.cc y x c' h1 (q ▸ hc))
    refine st.turn (tk := s.toks) (mem_muts_cell hc) ⟨(st.fc x c hc).1.1, (st.fc x c hc).1.2.2⟩ hs' (let ⟨o, ho, _⟩ := hi'; ⟨o, ho⟩) hsub ⟨m, hn.sameBut hs' (Ne.symm hcl)⟩ (fun y c' hc' => ?_) (fun y e hy => ?_) hl (del_nodup st.kd)
    · by_cases e1 : y = x
      · subst e1; rw [hc] at hc'; cases hc'; exact ⟨_, hi'⟩
      · obtain ⟨u, hu⟩ := st.cells y c' hc'; exact ⟨u, hu.sameBut hs' (cell' y c' hc' e1)⟩
    · rw [lookup_del] at hy
      by_cases e1 : y = x
      · rw [if_pos e1] at hy; cases hy
      · rw [if_neg e1] at hy
        obtain ⟨u, b, r'⟩ := st.e.vars y e hy
        exact ⟨u, ⟨b.1, b.2.imp (fun ⟨a, m2, n2, e2⟩ => ⟨a, m2, n2.sameBut hs' (Ne.symm hcl), e2⟩) fun ⟨a, c', hc', hi⟩ => ⟨a, c', hc', hi.sameBut hs' (cell' y c' hc' e1)⟩⟩,
          r'.turn (mem_muts_cell hc) hs' (muts_sub hsub) (fun q => (st.fo y e _ hy q).2.2 (List.mem_map.mpr ⟨_, mem_of_lookup hc, rfl⟩)) fun a ha => mem_muts_own (mem_owned (x := y) (by rw [lookup_del, if_neg e1]; exact hy) ha)⟩

/-- an entry's reading through another hidden set -/
theorem ER.hid {h : Heap} {O O' : List Addr} {v : Value} {e : Ent} (x : ER p w h O v e) (hO : ∀ a ∈ O', a ∈ O) (ho' : ∀ a ∈ e.own, a ∈ O') : ER p w h O' v e := by
  have sb := exc_sub (h := h) hO
  cases e with
  | val d => exact Rd.mono sb d x
  | lst a ds => obtain ⟨e, _, o, vs, h1, h2, r⟩ := x; exact ⟨e, ho' a (by simp [Ent.own]), o, vs, h1, h2, r.mono sb⟩
  | dct a ds => obtain ⟨e, _, o, vs, h1, h2, r⟩ := x; exact ⟨e, ho' a (by simp [Ent.own]), o, vs, h1, h2, r.mono sb⟩
  | pil a dx f ds => obtain ⟨e, _, _, vs, h1, r⟩ := x; exact ⟨e, ho' a (by simp [Ent.own]), ho' dx (by simp [Ent.own]), vs, h1, r.mono sb⟩
/-- new objects set aside -/
theorem StS.aside {B B' : Base} {O₀ ext : List Addr} {s s₁ : Shared} (st : StS p w K B O₀ env σ s) (y : Sh s s₁) (hf : ∀ a ∈ ext, s.heap.get? a = none) (ht : ∀ a ∈ ext, ∃ o, s₁.heap.get? a = some o)
    (keep : KpL B'.look s₁.heap) (os : s₁.os = B'.os) (gens : AllBare B'.gens → AllBare s₁.gens) (hb : ∀ a, Own1 B O₀ a → (∃ o, s.heap.get? a = some o) → (a = env.locals ∨ a ∈ env.cells.map (·.2) ∨ a ∈ owned σ) → B'.look a = none) : StS p w K B' (ext ++ O₀) env σ s₁ := by
  have st₁ := st.sh y
  have low : ∀ a ∈ ext, a ≠ tA ∧ a ≠ tB := fun a ha => ⟨fun q => (by obtain ⟨ps, e, _⟩ := st.e.wd.ta; rw [← q, hf a ha] at e; cases e), fun q => (by obtain ⟨ps, e, _⟩ := st.e.wd.tb; rw [← q, hf a ha] at e; cases e)⟩
  have old : ∀ a ∈ muts env σ O₀, a ∉ ext := fun a ha q => by
    obtain ⟨_, _, o, e⟩ := st.e.bd a ha
    rw [hf a q] at e; cases e
  have own : ∀ a, Own1 B O₀ a → a ∈ muts env σ O₀ → (a = env.locals ∨ a ∈ env.cells.map (·.2) ∨ a ∈ owned σ) → Own1 B' (ext ++ O₀) a := fun a h hm hw => ⟨hb a h (st.e.bd a hm).2.2 hw, fun q => (List.mem_append.mp q).elim (old a hm) h.2.1, h.2.2⟩
  have sub : ∀ a, a ∈ muts env σ (ext ++ O₀) → a ∈ ext ∨ a ∈ muts env σ O₀ := fun a ha => by
    simp only [muts, List.mem_cons, List.mem_append] at ha ⊢
    rcases ha with h | h | h | h | h
    · exact .inr (.inl h)
    · exact .inr (.inr (.inl h))
    · exact .inr (.inr (.inr (.inl h)))
    · exact .inl h
    · exact .inr (.inr (.inr (.inr h)))
  have sb : Sub (exc s.heap (muts env σ O₀)) (exc s₁.heap (muts env σ (ext ++ O₀))) := fun a o e c => by
    obtain ⟨h1, h2⟩ := exc_get e
    refine exc_of (fun q => (sub a q).elim (fun q => ?_) h1) (st.e.wd.keeps y.kp h2 (not_tab_cls c))
    rw [hf a q] at h2; cases h2
  refine { e := { wd := st₁.e.wd, bd := fun a ha => (sub a ha).elim (fun q => ⟨(low a q).1, (low a q).2, ht a q⟩) (st₁.e.bd a), kind := st.e.kind, glob := st.e.glob, bi := st.e.bi, vars := fun z e hz => ?_ }
           keep := keep, os := os, gens := gens, ns := st₁.ns, cells := st₁.cells, cellk := st.cellk, fl := own _ st.fl mem_muts_loc (.inl rfl)
           fc := fun z c hc => ⟨own c (st.fc z c hc).1 (mem_muts_cell hc) (.inr (.inl (List.mem_map.mpr ⟨_, mem_of_lookup hc, rfl⟩))), (st.fc z c hc).2⟩, cc := st.cc
           fo := fun z e a h1 h2 => ⟨own a (st.fo z e a h1 h2).1 (mem_muts_own (mem_owned h1 h2)) (.inr (.inr (mem_owned h1 h2))), (st.fo z e a h1 h2).2⟩, oo := st.oo, kd := st.kd }
  obtain ⟨v, b, r⟩ := st.e.vars z e hz
  refine ⟨v, b.kp st.e.wd y.kp, ?_⟩
  have mo : ∀ a ∈ e.own, a ∈ muts env σ (ext ++ O₀) := fun a ha => mem_muts_own (mem_owned hz ha)
  have kp := r.kp st.e.wd y.kp
  cases e with
  | val d => exact Rd.mono sb d r
  | lst a ds => obtain ⟨e, _, o, vs, h1, h2, r'⟩ := r; obtain ⟨_, _, o', vs', g1, g2, _⟩ := kp; exact ⟨e, mo a (by simp [Ent.own]), o, vs, st.e.wd.keeps y.kp h1 (not_tab_cls h2.cls), h2, r'.mono sb⟩
  | dct a ds => obtain ⟨e, _, o, vs, h1, h2, r'⟩ := r; exact ⟨e, mo a (by simp [Ent.own]), o, vs, st.e.wd.keeps y.kp h1 (not_tab_cls (isDict_cls h2)), h2, r'.mono sb⟩
  | pil a dx f ds =>
    obtain ⟨e, _, _, vs, h1, r'⟩ := r
    refine ⟨e, mo a (by simp [Ent.own]), mo dx (by simp [Ent.own]), vs, ?_, r'.mono sb⟩
    obtain ⟨⟨k, h1⟩, od, hd, hc⟩ := h1
    exact ⟨⟨k, st.e.wd.keeps y.kp h1 (not_tab_cls (by intro e; cases e))⟩, od, st.e.wd.keeps y.kp hd (not_tab_cls hc.cls), hc⟩
/-- objects set aside come under a name -/
theorem StS.adopt {B : Base} {O₀ ext : List Addr} {s : Shared} {x : Str} {v : Value} {e : Ent} (st : StS p w K B (ext ++ O₀) env σ s) (hx : σ.lookup x = none) (b : Bnd env s.heap x v) (he : e.own = ext) (hb : ∀ a ∈ ext, Own1 B O₀ a) (hc : ∀ a ∈ ext, a ∉ env.cells.map (·.2))
    (r : ER p w s.heap (muts env σ (ext ++ O₀)) v e) : StS p w K B O₀ env (put σ x e) s := by
  have sub : ∀ a, a ∈ muts env (put σ x e) O₀ → a ∈ muts env σ (ext ++ O₀) := fun a ha => by
    simp only [muts, List.mem_cons, List.mem_append] at ha ⊢
    rcases ha with h | h | h | h
    · exact .inl h
    · exact .inr (.inl h)
    · rcases owned_put h with h | h
      · exact .inr (.inr (.inl h))
      · exact .inr (.inr (.inr (.inl (he ▸ h))))
    · exact .inr (.inr (.inr (.inr h)))
  have off : ∀ a, Own1 B (ext ++ O₀) a → Own1 B O₀ a ∧ a ∉ ext := fun a h => ⟨⟨h.1, fun q => h.2.1 (List.mem_append_right _ q), h.2.2⟩, fun q => h.2.1 (List.mem_append_left _ q)⟩
  have look : ∀ z f, (put σ x e).lookup z = some f → (z = x ∧ f = e) ∨ (z ≠ x ∧ σ.lookup z = some f) := fun z f h => by
    rw [lookup_put] at h
    by_cases hz : z = x
    · rw [if_pos hz] at h; exact .inl ⟨hz, (Option.some.inj h).symm⟩
    · rw [if_neg hz] at h; exact .inr ⟨hz, h⟩
  refine { e := { wd := st.e.wd, bd := fun a ha => st.e.bd a (sub a ha), kind := st.e.kind, glob := st.e.glob, bi := st.e.bi, vars := fun z f hz => ?_ }
           keep := st.keep, os := st.os, gens := st.gens, ns := st.ns, cells := st.cells, cellk := st.cellk, fl := (off _ st.fl).1
           fc := fun z c hc => ⟨(off c (st.fc z c hc).1).1, (st.fc z c hc).2⟩, cc := st.cc, fo := fun z f a h1 h2 => ?_, oo := fun z y f g a h1 h2 h3 h4 => ?_, kd := put_nodup st.kd }
  · rcases look z f hz with ⟨rfl, rfl⟩ | ⟨hne, h⟩
    · exact ⟨v, b, r.hid sub fun a ha => mem_muts_own (mem_owned hz ha)⟩
    · obtain ⟨u, b', r'⟩ := st.e.vars z f h
      exact ⟨u, b', r'.hid sub fun a ha => mem_muts_own (mem_owned hz ha)⟩
  · rcases look z f h1 with ⟨rfl, rfl⟩ | ⟨hne, h⟩
    · have ha : a ∈ ext := he ▸ h2
      exact ⟨hb a ha, fun q => (off _ st.fl).2 (q ▸ ha), hc a ha⟩
    · exact ⟨(off a (st.fo z f a h h2).1).1, (st.fo z f a h h2).2⟩
  · rcases look z f h1 with ⟨rfl, rfl⟩ | ⟨hne, h⟩ <;> rcases look y g h2 with ⟨rfl, rfl⟩ | ⟨hne', h'⟩
    · rfl
    · exact absurd (he ▸ h3) (off a (st.fo y g a h' h4).1).2
    · exact absurd (he ▸ h4) (off a (st.fo z f a h h3).1).2
    · exact st.oo z y f g a h h' h3 h4
end Mine
end
section
open PySem PySem.Spec PySem.Calls PyProof.Rows PySem.W
namespace Mine
variable {p : Program} {w : World} {K : Frag} {n : Nat} {env : Env} {σ : Store}

noncomputable abbrev ownP (env : Env) (σ : Store) : List Addr := env.locals :: (env.cells.map (·.2) ++ owned σ)
theorem ownP_muts {O₀ : List Addr} {a : Addr} (h : a ∈ ownP env σ) : a ∈ muts env σ O₀ := by
  simp only [ownP, muts, List.mem_cons, List.mem_append] at h ⊢
  rcases h with h | h | h
  · exact .inl h
  · exact .inr (.inl h)
  · exact .inr (.inr (.inl h))
theorem muts_own {O₀ : List Addr} {a : Addr} (h : a ∈ muts env σ O₀) : a ∈ ownP env σ ∨ a ∈ O₀ := by
  simp only [ownP, muts, List.mem_cons, List.mem_append] at h ⊢
  rcases h with h | h | h | h
  · exact .inl (.inl h)
  · exact .inl (.inr (.inl h))
  · exact .inl (.inr (.inr h))
  · exact .inr h
noncomputable def baseAt (env : Env) (σ : Store) (s : Shared) : Base := ⟨exc s.heap (ownP env σ), s.os, s.gens⟩
theorem exc_keep {h : Heap} {O : List Addr} : KpL (exc h O) h where
  get := fun b o _ _ e => (exc_get e).2
  ta := fun ps e q => ⟨#[], by rw [Array.append_empty]; exact (exc_get e).2, by rw [Array.append_empty]; exact q⟩
  tb := fun ps e q => ⟨#[], by rw [Array.append_empty]; exact (exc_get e).2, by rw [Array.append_empty]; exact q⟩
/-- the own objects of the cells by name -/
theorem StS.cellOwn {B : Base} {O₀ : List Addr} {s : Shared} (st : StS p w K B O₀ env σ s) (hn : (env.cells.map (·.1)).Nodup) {a : Addr} (h : a ∈ ownP env σ) : Own1 B O₀ a := by
  simp only [ownP, List.mem_cons, List.mem_append] at h
  rcases h with h | h | h
  · exact h ▸ st.fl
  · obtain ⟨⟨z, c⟩, hm, rfl⟩ := List.mem_map.mp h
    exact (st.fc z c (lookMem hn hm)).1
  · obtain ⟨x, e, h1, h2⟩ := own_of_mem st.kd h
    exact (st.fo x e a h1 h2).1
theorem StS.rebase {B : Base} {O₀ : List Addr} {s : Shared} (st : StS p w K B O₀ env σ s) : StS p w K (baseAt env σ s) O₀ env σ s := by
  have := st.aside (ext := []) (B' := baseAt env σ s) (.refl s) (by simp) (by simp) exc_keep rfl id fun a _ _ h => by
    show exc s.heap (ownP env σ) a = none
    rw [exc, if_pos]
    simp only [ownP, List.mem_cons, List.mem_append]
    exact h
  simpa using this
theorem StS.back {B : Base} {O₀ : List Addr} {s s' : Shared} {σ' : Store} (st : StS p w K B O₀ env σ s) (hn : (env.cells.map (·.1)).Nodup) (st' : StS p w K (baseAt env σ s) O₀ env σ' s') : StS p w K B O₀ env σ' s' := by
  have own : ∀ a, Own1 (baseAt env σ s) O₀ a → Own1 B O₀ a := fun a ⟨h1, h2, h3⟩ => by
    refine ⟨?_, h2, h3⟩
    by_cases hm : a ∈ ownP env σ
    · exact (st.cellOwn hn hm).1
    · have : s.heap.get? a = none := by
        have h1' : exc s.heap (ownP env σ) a = none := h1
        rwa [exc, if_neg hm] at h1'
      cases e : B.look a with
      | none => rfl
      | some o =>
        have e2 := st.keep.get a o (fun q => by subst q; exact absurd h3 (by decide)) (fun q => by subst q; exact absurd h3 (by decide)) e
        rw [this] at e2; cases e2
  have nin : ∀ b o, B.look b = some o → b ∉ ownP env σ := fun b o e hm => by rw [(st.cellOwn hn hm).1] at e; cases e
  have low : ∀ b, b < lowN → b ∉ ownP env σ := fun b hb hm => absurd (st.cellOwn hn hm).2.2 (Nat.not_le.mpr hb)
  have gr : ∀ t, t < lowN → Grows B.look s.heap t → Grows (baseAt env σ s).look s'.heap t → Grows B.look s'.heap t := fun t ht g1 g2 ps e q => by
    obtain ⟨m, e1, q1⟩ := g1 ps e q
    obtain ⟨m', e2, q2⟩ := g2 _ (exc_of (low t ht) e1) q1
    rw [Array.append_assoc] at e2 q2
    exact ⟨m ++ m', e2, q2⟩
  exact { st' with
    keep := ⟨fun b o h1 h2 e => st'.keep.get b o h1 h2 (exc_of (nin b o e) (st.keep.get b o h1 h2 e)), gr tA (by decide) st.keep.ta st'.keep.ta, gr tB (by decide) st.keep.tb st'.keep.tb⟩
    os := st'.os.trans st.os
    gens := fun h => st'.gens (st.gens h)
    fl := own _ st'.fl
    fc := fun z c hc => ⟨own c (st'.fc z c hc).1, (st'.fc z c hc).2⟩
    fo := fun z e a h1 h2 => ⟨own a (st'.fo z e a h1 h2).1, (st'.fo z e a h1 h2).2⟩ }
/-- what is set aside is let go -/
theorem StS.letGo {B : Base} {O₀ : List Addr} {s : Shared} {ext : List Addr} (st : StS p w K B (ext ++ O₀) env σ s) : StS p w K B O₀ env σ s := by
  have sub : ∀ a, a ∈ muts env σ O₀ → a ∈ muts env σ (ext ++ O₀) := fun a ha => by
    simp only [muts, List.mem_cons, List.mem_append] at ha ⊢
    rcases ha with h | h | h | h
    · exact .inl h
    · exact .inr (.inl h)
    · exact .inr (.inr (.inl h))
    · exact .inr (.inr (.inr (.inr h)))
  have own : ∀ a, Own1 B (ext ++ O₀) a → Own1 B O₀ a := fun a h => ⟨h.1, fun q => h.2.1 (List.mem_append_right _ q), h.2.2⟩
  exact { st with
    e := { st.e with bd := fun a ha => st.e.bd a (sub a ha), vars := fun z e hz => let ⟨v, b, r⟩ := st.e.vars z e hz; ⟨v, b, r.hid sub fun a ha => mem_muts_own (mem_owned hz ha)⟩ }
    fl := own _ st.fl
    fc := fun z c hc => ⟨own c (st.fc z c hc).1, (st.fc z c hc).2⟩
    fo := fun z e a h1 h2 => ⟨own a (st.fo z e a h1 h2).1, (st.fo z e a h1 h2).2⟩ }

/-- an object that is set aside is turned -/
theorem StS.walk {B : Base} {O₀ O₁ : List Addr} {s : Shared} (st : StS p w K B O₀ env σ s) {I : Addr} {h' : Heap} {tk : Nat} (hcn : (env.cells.map (·.1)).Nodup) (hI : I ∈ O₀) (hg : B.look I = none) (hl : lowN ≤ I) (hO : ∀ a ∈ O₁, a ∈ O₀) (there : ∀ a ∈ O₁, ∃ o, h'.get? a = some o)
    (k : ∀ b o, b ≠ I → s.heap.get? b = some o → h'.get? b = some o) : StS p w K B O₁ env σ { s with heap := h', toks := tk } := by
  have hm : I ∈ muts env σ O₀ := muts_base I hI
  have sub : ∀ a, a ∈ muts env σ O₁ → a ∈ muts env σ O₀ := fun a ha => by
    simp only [muts, List.mem_cons, List.mem_append] at ha ⊢
    rcases ha with h | h | h | h
    · exact .inl h
    · exact .inr (.inl h)
    · exact .inr (.inr (.inl h))
    · exact .inr (.inr (.inr (hO a h)))
  have own : ∀ a, Own1 B O₀ a → Own1 B O₁ a := fun a h => ⟨h.1, fun q => h.2.1 (hO a q), h.2.2⟩
  have lo : ∀ b, b < lowN → b ≠ I := fun b hb q => absurd hl (Nat.not_le.mpr (q ▸ hb))
  have nsk : ∀ {a m}, a ≠ I → s.heap.Ns a m → h'.Ns a m := fun ha ⟨o, es, ep, x, r⟩ => ⟨o, es, ep, k _ _ ha x, r⟩
  have clk : ∀ {a v}, a ≠ I → s.heap.IsCell a v → h'.IsCell a v := fun ha ⟨o, x, r⟩ => ⟨o, k _ _ ha x, r⟩
  have sb : Sub (exc s.heap (muts env σ O₀)) (exc h' (muts env σ O₁)) := fun a o e _ => by
    obtain ⟨h1, h2⟩ := exc_get e
    exact exc_of (fun q => h1 (sub a q)) (k a o (fun q => h1 (q ▸ hm)) h2)
  have offI : ∀ a, Own1 B O₀ a → a ≠ I := fun a h q => h.2.1 (q ▸ hI)
  refine { e := { wd := { kok := st.e.wd.kok, kin := fun a o e => k a o (lo a (st.e.wd.kok.low a o e)) (st.e.wd.kin a o e), lim := ?_, g := ?_, b := ?_, ta := ?_, tb := ?_, bm := ?_ }, bd := fun a ha => ?_, kind := st.e.kind, glob := st.e.glob, bi := st.e.bi, vars := fun z e hz => ?_ }
           keep := ⟨fun b o h1 h2 e => k b o (fun q => by rw [q, hg] at e; cases e) (st.keep.get b o h1 h2 e), fun ps e q => ?_, fun ps e q => ?_⟩, os := st.os, gens := st.gens
           ns := let ⟨m, hn⟩ := st.ns; ⟨m, nsk (offI _ st.fl) hn⟩, cells := fun z c hc => let ⟨v, hv⟩ := st.cells z c hc; ⟨v, clk (offI _ (st.fc z c hc).1) hv⟩
           cellk := st.cellk, fl := own _ st.fl, fc := fun z c hc => ⟨own c (st.fc z c hc).1, (st.fc z c hc).2⟩, cc := st.cc, fo := fun z e a h1 h2 => ⟨own a (st.fo z e a h1 h2).1, (st.fo z e a h1 h2).2⟩, oo := st.oo, kd := st.kd }
  · obtain ⟨mc, hn, e⟩ := st.e.wd.lim; exact ⟨mc, nsk (lo _ (by decide)) hn, e⟩
  · obtain ⟨mc, hn⟩ := st.e.wd.g; exact ⟨mc, nsk (lo _ (by decide)) hn⟩
  · obtain ⟨mc, hn, r⟩ := st.e.wd.b; exact ⟨mc, nsk (lo _ (by decide)) hn, r⟩
  · obtain ⟨ps, e, q⟩ := st.e.wd.ta; exact ⟨ps, k _ _ (lo _ (by decide)) e, q⟩
  · obtain ⟨ps, e, q⟩ := st.e.wd.tb; exact ⟨ps, k _ _ (lo _ (by decide)) e, q⟩
  · obtain ⟨mg, bm, ob, q, x⟩ := st.e.wd.bm; exact ⟨mg, bm, ob, q, nsk (lo _ (by decide)) x.ns, x.name, x.ne, k _ _ (lo _ q) x.obj, x.cls, x.dict, x.data⟩
  · obtain ⟨h1, h2, o, ho⟩ := st.e.bd a (sub a ha)
    refine ⟨h1, h2, ?_⟩
    by_cases e : a = I
    · subst e
      rcases muts_own ha with q | q
      · simp only [ownP, List.mem_cons, List.mem_append] at q
        rcases q with q | q | q
        · exact absurd hI (q ▸ st.fl.2.1)
        · obtain ⟨⟨z, c⟩, hz, rfl⟩ := List.mem_map.mp q
          exact absurd hI (st.fc z c (lookMem hcn hz)).1.2.1
        · obtain ⟨x, e, g1, g2⟩ := own_of_mem st.kd q
          exact absurd hI (st.fo x e _ g1 g2).1.2.1
      · exact there a q
    · exact ⟨o, k a o e ho⟩
  · obtain ⟨v, b, r⟩ := st.e.vars z e hz
    refine ⟨v, ⟨b.1, b.2.imp (fun ⟨a, m, n, e⟩ => ⟨a, m, nsk (offI _ st.fl) n, e⟩) fun ⟨a, c, l, e⟩ => ⟨a, c, l, clk (offI _ (st.fc z c l).1) e⟩⟩, ?_⟩
    cases e with
    | val d => exact Rd.mono sb d r
    | lst a ds => obtain ⟨e, h0, o, vs, h1, h2, r'⟩ := r; exact ⟨e, mem_muts_own (mem_owned hz (by simp [Ent.own])), o, vs, k a o (offI a (st.fo z _ a hz (by simp [Ent.own])).1) h1, h2, r'.mono sb⟩
    | dct a ds => obtain ⟨e, h0, o, vs, h1, h2, r'⟩ := r; exact ⟨e, mem_muts_own (mem_owned hz (by simp [Ent.own])), o, vs, k a o (offI a (st.fo z _ a hz (by simp [Ent.own])).1) h1, h2, r'.mono sb⟩
    | pil a dx f ds =>
      obtain ⟨e, h0, h0', vs, ⟨⟨j, h1⟩, od, hd, hc⟩, r'⟩ := r
      have ha := offI a (st.fo z _ a hz (by simp [Ent.own])).1
      have hd' := offI dx (st.fo z _ dx hz (by simp [Ent.own])).1
      exact ⟨e, mem_muts_own (mem_owned hz (by simp [Ent.own])), mem_muts_own (mem_owned hz (by simp [Ent.own])), vs, ⟨⟨j, k a _ ha h1⟩, od, k dx _ hd' hd, hc⟩, r'.mono sb⟩
  · obtain ⟨m, e1, q1⟩ := st.keep.ta ps e q; exact ⟨m, k _ _ (lo _ (by decide)) e1, q1⟩
  · obtain ⟨m, e1, q1⟩ := st.keep.tb ps e q; exact ⟨m, k _ _ (lo _ (by decide)) e1, q1⟩

/-- what a walk over things is -/
structure WalkOk (p : Program) (w : World) (K : Frag) (tp : Bool) (O : List Addr) (s s' : Shared) (ds : List D) (I : Addr) (fp : List Addr) (P : Nat → Value → Prop) (St : Nat → Heap → Prop) : Prop where
  W : ∀ A : Around, A.handled = none → Walks p w A I fp [I] ds.length P St
  st : St 0 s'.heap
  new : s.heap.objs.size ≤ I
  there : ∀ i h, St i h → ∃ o, h.get? I = some o ∧ (tp = true → o.cls = .type "list_iterator")
  fp : ∀ b ∈ fp, b = I ∨ (b ∉ O ∧ b ≠ tA ∧ b ≠ tB ∧ ∃ o, s.heap.get? b = some o)
  rd : ∀ i v d, P i v → ds[i]? = some d → Rd p w (exc s.heap O) d v
noncomputable def EvW (p : Program) (w : World) (K : Frag) (n : Nat) (env : Env) (tp : Bool) (σ : Store) (e : Expr) (ds : List D) : Prop :=
  ∀ (O : List Addr) (A : Around) (s : Shared) (Q : Value → Shared → Prop) (E : Value → Shared → Prop), Ok n A → StE p w K O env σ s →
    (∀ s₁ s₂ I fp P St, Sh s s₁ → Sh s₁ s₂ → WalkOk p w K tp O s₁ s₂ ds I fp P St → Q (.ref I) s₂) → wpAny (model p w) A (eval e env) (fun x s₁ => wpAny (model p w) A (pyIter x) Q E s₁) E s
theorem EvW.list {tp : Bool} {e : Expr} {ds : List D} (h : Ev p w K n env σ e (.list ds)) : EvW p w K n env tp σ e ds := fun O A s Q E ok st hQ =>
  h O A s _ E ok st fun v s₁ y r => by
    simp only [Rd] at r
    obtain ⟨a, o, vs, rfl, ho, hl, rl⟩ := r
    obtain ⟨h1, h2⟩ := exc_get ho
    have hL := hl.isList h2
    have e := rl.length
    have off := (st.sh y).wd.off h2 (not_tab_cls hl.cls)
    refine wpAny_pyIter_list hL (hQ s₁ _ s₁.heap.objs.size [s₁.heap.objs.size, a] (fun i v => vs.toArray[i]? = some v) (fun i h => h.IsListIter s₁.heap.objs.size a i ∧ h.IsList a vs.toArray) y (Sh.mkh (.push _ _)) ⟨fun A' hA => by rw [e]; exact Walks.list hA _ a (Nat.ne_of_lt (Heap.lt_size h2)) vs.toArray, ⟨⟨_, Heap.get?_push_size _ rfl, rfl, rfl⟩, hL.push _⟩, ?_, fun i h' hs => ?_, fun b hb => ?_, fun i v d hv hd => ?_⟩)
    · exact Nat.le_refl _
    · obtain ⟨⟨o', ho', hc, _⟩, _⟩ := hs; exact ⟨o', ho', fun _ => hc⟩
    · rcases List.mem_cons.mp hb with rfl | hb
      · exact .inl rfl
      · rcases List.mem_cons.mp hb with rfl | hb
        · exact .inr ⟨h1, off.1, off.2, o, h2⟩
        · cases hb
    · obtain ⟨u, e1, r1⟩ := rl.get hd
      have : v = u := by
        have hv' : vs[i]? = some v := by simpa using hv
        rw [e1] at hv'; exact (Option.some.inj hv').symm
      exact this ▸ r1
/-- the signs of a text -/
noncomputable def signs (x : Str) : List D := x.cps.toList.map fun c => .str ⟨#[c]⟩
theorem signs_length (x : Str) : (signs x).length = x.cps.size := by simp [signs]
theorem EvW.str {e : Expr} {x : Str} (h : Ev p w K n env σ e (.str x)) (ha : x.cps.all (· < 128) = true) : EvW p w K n env false σ e (signs x) := fun O A s Q E ok st hQ =>
  h O A s _ E ok st fun v s₁ y r => by
    obtain ⟨t, rfl⟩ := r
    refine wpAny_pyIter_ascii ha (hQ s₁ _ s₁.heap.objs.size [s₁.heap.objs.size] (SignAt x) (fun i h => h.IsStrIter s₁.heap.objs.size "str_ascii_iterator" x t i) y (Sh.mkh (.push _ _)) ⟨fun A' hA => by rw [signs_length]; exact Walks.strAscii hA _ x t, ⟨_, Heap.get?_push_size _ rfl, rfl, rfl⟩, ?_, fun i h' hs => ?_, fun b hb => .inl (List.mem_singleton.mp hb), fun i v d hv hd => ?_⟩)
    · exact Nat.le_refl _
    · obtain ⟨o, ho, _⟩ := hs; exact ⟨o, ho, fun q => by cases q⟩
    · obtain ⟨c, u, e1, rfl⟩ := hv
      simp only [signs, List.getElem?_map] at hd
      have : x.cps.toList[i]? = some c := by simpa using e1
      rw [this] at hd
      cases hd
      exact ⟨u, rfl⟩

/-- a range -/
noncomputable def EvR (p : Program) (w : World) (K : Frag) (n : Nat) (env : Env) (σ : Store) (e : Expr) (a b c : Int) : Prop :=
  ∀ (O : List Addr) (A : Around) (s : Shared) (Q : Value → Shared → Prop) (E : Value → Shared → Prop), Ok n A → StE p w K O env σ s →
    (∀ r s' t u v, Sh s s' → IsRange s'.heap r a b c t u v → Q (.ref r) s') → wpAny (model p w) A (eval e env) Q E s
theorem EvR.one {fp pos : Pos} {arg : Expr} {a : Int} (hg : EvG p w K env (.Name "range" fp) (.type "range")) (ha : Ev p w K n env σ arg (.int a)) (he : starEach [arg] env = (false, eval arg env) :: starEach [] env := by rfl)
    (hns : (backTo pos (starEach [arg] env)).any (·.1) = false := by rfl) : EvR p w K n env σ (.Call (.Name "range" fp) [arg] [] pos) 0 a 1 := fun O A s Q E ok st hQ =>
  evCall st hg (.ty) hns (spliced_more (ha O A s _ E ok st fun v s' y r => spliced_none ⟨(st.sh y).wd.kin, by
    obtain ⟨t, rfl⟩ := r
    exact call_range_1 (hQ _ _ _ _ _ (y.trans (.mk' (.push _ _))) (Heap.get?_push_size _ rfl))⟩) he)
theorem EvR.three {fp pos : Pos} {args : List Expr} {a b c : Int} (hg : EvG p w K env (.Name "range" fp) (.type "range")) (ha : EvLs p w K n env σ args [.int a, .int b, .int c]) (hc : c ≠ 0) (hc' : c.natAbs < 1073741824)
    (hns : (backTo pos (starEach args env)).any (·.1) = false) : EvR p w K n env σ (.Call (.Name "range" fp) args [] pos) a b c := fun O A s Q E ok st hQ =>
  evCall st hg (.ty) hns (ha O A s _ E pos ok st fun vs s' y r => ⟨(st.sh y).wd.kin, by
    simp only [RdL, Rd] at r
    obtain ⟨_, _, rfl, ⟨t, rfl⟩, _, _, rfl, ⟨u, rfl⟩, _, _, rfl, ⟨v, rfl⟩, rfl⟩ := r
    exact call_range_3 hc (hQ _ _ _ _ _ (y.trans (.mk' (.push _ _))) (Heap.get?_push_size _ rfl)) (.inl (PyProof.noPylong_small hc'))⟩)
noncomputable def rangeDs (a c : Int) (m : Nat) : List D := (List.range m).map fun i => .int (a + (i : Nat) * c)
theorem EvW.range {e : Expr} {a b c : Int} {m : Nat} (h : EvR p w K n env σ e a b c) (hm : Builtin.Range.rangeSize a b c = m) (hs : Builtin.Range.small a b c = true) : EvW p w K n env false σ e (rangeDs a c m) := fun O A s Q E ok st hQ =>
  h O A s _ E ok st fun r s₁ t u v y hr => by
    refine wpAny_pyIter_range hr hs (hQ s₁ _ s₁.heap.objs.size [s₁.heap.objs.size] (fun i v => ∃ t, v = .int (a + i * c) t) (fun i h => IsRangeIter h s₁.heap.objs.size (a + (i : Nat) * c) ((m : Int) - (i : Nat)) c) y (Sh.mkh (.push _ _))
      ⟨fun A' hA => by rw [rangeDs, List.length_map, List.length_range]; exact Walks.range hA _ a c m, ?_, ?_, fun i h' hs => ⟨_, hs, fun q => by cases q⟩, fun b hb => .inl (List.mem_singleton.mp hb), fun i v d hv hd => ?_⟩)
    · have e1 : a + ((0 : Nat) : Int) * c = a := by simp
      have e2 : (m : Int) - ((0 : Nat) : Int) = m := by simp
      show IsRangeIter _ _ _ _ _
      rw [e1, e2, hm]
      exact Heap.get?_push_size _ rfl
    · exact Nat.le_refl _
    · obtain ⟨t', rfl⟩ := hv
      simp only [rangeDs, List.getElem?_map] at hd
      by_cases hi : i < m
      · rw [List.getElem?_range hi] at hd
        cases hd
        exact ⟨_, rfl⟩
      · rw [List.getElem?_eq_none (by simp; omega)] at hd; cases hd
end Mine
end
section
open PySem PySem.Spec PySem.Calls PyProof.Rows PySem.W
namespace Mine
variable {p : Program} {w : World} {K : Frag} {n : Nat} {env : Env} {σ : Store}

theorem ER.map {h h' : Heap} {O O' : List Addr} {v : Value} {e : Ent} (x : ER p w h O v e) (sb : Sub (exc h O) (exc h' O')) (own : ∀ a ∈ e.own, a ∈ O' ∧ ∀ o, h.get? a = some o → h'.get? a = some o) : ER p w h' O' v e := by
  cases e with
  | val d => exact Rd.mono sb d x
  | lst a ds => obtain ⟨e, _, o, vs, h1, h2, r⟩ := x; have ho := own a (by simp [Ent.own]); exact ⟨e, ho.1, o, vs, ho.2 o h1, h2, r.mono sb⟩
  | dct a ds => obtain ⟨e, _, o, vs, h1, h2, r⟩ := x; have ho := own a (by simp [Ent.own]); exact ⟨e, ho.1, o, vs, ho.2 o h1, h2, r.mono sb⟩
  | pil a dx f ds =>
    obtain ⟨e, _, _, vs, ⟨⟨k, h1⟩, od, hd, hc⟩, r⟩ := x
    have ho := own a (by simp [Ent.own])
    have hd' := own dx (by simp [Ent.own])
    exact ⟨e, ho.1, hd'.1, vs, ⟨⟨k, ho.2 _ h1⟩, od, hd'.2 _ hd, hc⟩, r.mono sb⟩
theorem StS.mem_cells {B : Base} {O₀ : List Addr} {s : Shared} (st : StS p w K B O₀ env σ s) {a : Addr} (h : a ∈ env.cells.map (·.2)) : ∃ o, s.heap.get? a = some o :=
  (st.e.bd a (List.mem_cons_of_mem _ (List.mem_append_left _ h))).2.2
/-- a name comes to hold e, whose own objects are new -/
theorem StS.storeE {B : Base} {O₀ : List Addr} {s s₁ : Shared} {M : Model} {A : Around} {E : Value → Shared → Prop} (st : StS p w K B O₀ env σ s) (y : Sh s s₁) {x : Str} {e : Ent} {v : Value} {Q : Unit → Shared → Prop}
    (hk : env.kindOf x = some .local ∨ env.kindOf x = some .cell) (hx : okName x = true) (hf : ∀ a ∈ e.own, s.heap.objs.size ≤ a) (ht : ∀ a ∈ e.own, ∃ o, s₁.heap.get? a = some o) (r : ER p w s₁.heap (e.own ++ muts env σ O₀) v e)
    (hQ : ∀ s', StS p w K B O₀ env (put σ x e) s' → Sub (exc s₁.heap (e.own ++ muts env σ O₀)) (exc s'.heap (muts env (put σ x e) O₀)) → (∀ b o, b ≠ env.locals → b ∉ env.cells.map (·.2) → s₁.heap.get? b = some o → s'.heap.get? b = some o) → Q () s') : wpAny M A (storeName env x v) Q E s₁ := by
  have gone := fun a ha => st.e.toStO.gone (hf a ha)
  have st1 := st.aside (ext := e.own) (B' := B) y (fun a ha => (gone a ha).1) ht (st.keep.trans y.kp) (y.os.trans st.os) (fun h => y.gens (st.gens h)) fun a h _ _ => h.1
  refine st1.bind hk hx fun s' st2 b k => ?_
  have cellOld : ∀ a ∈ e.own, a ∉ env.cells.map (·.2) := fun a ha q => by obtain ⟨o, ho⟩ := st.mem_cells q; rw [(gone a ha).1] at ho; cases ho
  have locOld : ∀ a ∈ e.own, a ≠ env.locals := fun a ha q => by obtain ⟨m, o, _, _, ho, _⟩ := st.ns; rw [← q, (gone a ha).1] at ho; cases ho
  have mem : ∀ a, a ∈ muts env (del σ x) (e.own ++ O₀) → a ∈ e.own ++ muts env σ O₀ := fun a ha => by
    simp only [muts, List.mem_cons, List.mem_append] at ha ⊢
    rcases ha with h | h | h | h | h
    · exact .inr (.inl h)
    · exact .inr (.inr (.inl h))
    · refine .inr (.inr (.inr (.inl (owned_of (del_nodup st.kd) (fun z f a h1 h2 => ?_) a h))))
      rw [lookup_del] at h1
      split at h1
      · cases h1
      · exact ⟨z, f, h1, h2⟩
    · exact .inl h
    · exact .inr (.inr (.inr (.inr h)))
  have sb : Sub (exc s₁.heap (e.own ++ muts env σ O₀)) (exc s'.heap (muts env (del σ x) (e.own ++ O₀))) := fun a o e' c => by
    obtain ⟨h1, h2⟩ := exc_get e'
    refine exc_of (fun q => h1 (mem a q)) (k a o (fun q => h1 (List.mem_append_right _ (q ▸ mem_muts_loc))) (fun q => h1 (List.mem_append_right _ (List.mem_cons_of_mem _ (List.mem_append_left _ q)))) h2)
  have r' : ER p w s'.heap (muts env (del σ x) (e.own ++ O₀)) v e := r.map sb fun a ha => ⟨muts_base a (List.mem_append_left _ ha), fun o ho => k a o (locOld a ha) (cellOld a ha) ho⟩
  have own : ∀ a ∈ e.own, Own1 B O₀ a := fun a ha => by
    refine ⟨?_, fun q => ?_, (gone a ha).2.2⟩
    · cases e1 : B.look a with
      | none => rfl
      | some o =>
        have := st.keep.get a o (fun q => by subst q; exact absurd (gone _ ha).2.2 (by decide)) (fun q => by subst q; exact absurd (gone _ ha).2.2 (by decide)) e1
        rw [(gone a ha).1] at this; cases this
    · exact (gone a ha).2.1 (muts_base a q)
  have st3 := st2.adopt (by rw [lookup_del, if_pos rfl]) b rfl own cellOld r'
  have lk : ∀ z, (put (del σ x) x e).lookup z = (put σ x e).lookup z := fun z => by
    rw [lookup_put, lookup_put, lookup_del]
    by_cases hz : z = x
    · rw [if_pos hz, if_pos hz]
    · rw [if_neg hz, if_neg hz, if_neg hz]
  have st4 := st3.weak (σ' := put σ x e) (put_nodup st.kd) fun z f hz => .inl ((lk z).trans hz)
  refine hQ s' st4 (Sub.trans sb (exc_sub fun a ha => ?_)) k
  simp only [muts, List.mem_cons, List.mem_append] at ha ⊢
  rcases ha with h | h | h | h
  · exact .inl h
  · exact .inr (.inl h)
  · obtain ⟨z, f, h1, h2⟩ := own_of_mem (put_nodup st.kd) h
    rw [lookup_put] at h1
    by_cases hz : z = x
    · rw [if_pos hz] at h1; cases h1; exact .inr (.inr (.inr (.inl h2)))
    · rw [if_neg hz] at h1
      exact .inr (.inr (.inl (mem_owned (x := z) (by rw [lookup_del, if_neg hz]; exact h1) h2)))
  · exact .inr (.inr (.inr (.inr h)))

/-- an own object of x is turned -/
theorem StS.turnOwn {B : Base} {O₀ : List Addr} {s : Shared} (st : StS p w K B O₀ env σ s) {x : Str} {e e' : Ent} {v : Value} {m : Addr} {h' : Heap} {tk : Nat} (hx : σ.lookup x = some e) (he : e'.own = e.own) (hm : m ∈ e.own) (b : Bnd env s.heap x v) (hs : Heap.SameBut m s.heap h')
    (hex : ∃ o, h'.get? m = some o) (r : ER p w h' (muts env σ O₀) v e') : StS p w K B O₀ env (put σ x e') { s with heap := h', toks := tk } := by
  have fo := st.fo x e m hx hm
  have look : ∀ z f, (put σ x e').lookup z = some f → (z = x ∧ f = e') ∨ (z ≠ x ∧ σ.lookup z = some f) := fun z f h => by
    rw [lookup_put] at h
    by_cases hz : z = x
    · rw [if_pos hz] at h; exact .inl ⟨hz, (Option.some.inj h).symm⟩
    · rw [if_neg hz] at h; exact .inr ⟨hz, h⟩
  have hl : ∀ z f a, (put σ x e').lookup z = some f → a ∈ f.own → ∃ e₀, σ.lookup z = some e₀ ∧ a ∈ e₀.own := fun z f a h1 h2 => by
    rcases look z f h1 with ⟨rfl, rfl⟩ | ⟨_, h⟩
    · exact ⟨e, hx, he ▸ h2⟩
    · exact ⟨f, h, h2⟩
  have hsub : ∀ a ∈ owned (put σ x e'), a ∈ owned σ := owned_of (put_nodup st.kd) fun z f a h1 h2 => ⟨z, hl z f a h1 h2⟩
  have mm : m ∈ muts env σ O₀ := mem_muts_own (mem_owned hx hm)
  have bnd : ∀ {z u}, Bnd env s.heap z u → Bnd env h' z u := fun b => ⟨b.1, b.2.imp (fun ⟨a, m2, n2, e2⟩ => ⟨a, m2, n2.sameBut hs (Ne.symm fo.2.1), e2⟩) fun ⟨a, c, hc, hi⟩ => ⟨a, c, hc, hi.sameBut hs fun q => fo.2.2 (q ▸ List.mem_map.mpr ⟨_, mem_of_lookup hc, rfl⟩)⟩⟩
  refine st.turn mm ⟨fo.1.1, fo.1.2.2⟩ hs hex hsub (let ⟨mm, hn⟩ := st.ns; ⟨mm, hn.sameBut hs (Ne.symm fo.2.1)⟩) (fun z c hc => let ⟨u, hu⟩ := st.cells z c hc; ⟨u, hu.sameBut hs fun q => fo.2.2 (q ▸ List.mem_map.mpr ⟨_, mem_of_lookup hc, rfl⟩)⟩) (fun z f hz => ?_) hl (put_nodup st.kd)
  rcases look z f hz with ⟨rfl, rfl⟩ | ⟨hne, h⟩
  · exact ⟨v, bnd b, r.hid (muts_sub hsub) fun a ha => mem_muts_own (mem_owned hz ha)⟩
  · obtain ⟨u, b', r'⟩ := st.e.vars z f h
    exact ⟨u, bnd b', r'.turn mm hs (muts_sub hsub) (fun q => hne (st.oo z x f e m h hx q hm)) fun a ha => mem_muts_own (mem_owned hz ha)⟩

theorem StS.storeV {B : Base} {O₀ : List Addr} {s : Shared} {M : Model} {A : Around} {E : Value → Shared → Prop} (st : StS p w K B O₀ env σ s) {x : Str} {d : D} {v : Value} {Q : Unit → Shared → Prop}
    (hk : env.kindOf x = some .local ∨ env.kindOf x = some .cell) (hx : okName x = true) (r : Rd p w (exc s.heap (muts env σ O₀)) d v)
    (hQ : ∀ s', StS p w K B O₀ env (put σ x (.val d)) s' → Sub (exc s.heap (muts env σ O₀)) (exc s'.heap (muts env (put σ x (.val d)) O₀)) → (∀ b o, b ≠ env.locals → b ∉ env.cells.map (·.2) → s.heap.get? b = some o → s'.heap.get? b = some o) → Q () s') : wpAny M A (storeName env x v) Q E s :=
  st.storeE (.refl s) (e := .val d) hk hx (fun a ha => by cases ha) (fun a ha => by cases ha) r hQ

/-- a target takes a datum -/
noncomputable def Asg (p : Program) (w : World) (K : Frag) (env : Env) (target : Expr) (d : D) (f : Store → Store) : Prop :=
  ∀ (B : Base) (O₀ : List Addr) (A : Around) (s : Shared) (σ : Store) (v : Value) (Q : Unit → Shared → Prop) (E : Value → Shared → Prop), A.handled = none → StS p w K B O₀ env σ s → Rd p w (exc s.heap (muts env σ O₀)) d v →
    (∀ s', StS p w K B O₀ env (f σ) s' → Q () s') → wpAny (model p w) A (assign target env v) Q E s
theorem Asg.name {x : Str} {pos : Pos} {d : D} (hk : env.kindOf x = some .local ∨ env.kindOf x = some .cell) (hx : okName x = true) : Asg p w K env (.Name x pos) d (fun σ => put σ x (.val d)) :=
  fun B O₀ A s σ v Q E hh st r hQ => wpAny_assign_Name (st.storeV hk hx r fun s' st' _ _ => hQ s' st')
theorem Asg.two {x z : Str} {px pz pos : Pos} {k : Nat} {a b : D} (hk : env.kindOf x = some .local ∨ env.kindOf x = some .cell) (hx : okName x = true) (hk' : env.kindOf z = some .local ∨ env.kindOf z = some .cell) (hz : okName z = true) :
    Asg p w K env (.Tuple [.Name x px, .Name z pz] k pos) (.tup [a, b]) (fun σ => put (put σ x (.val a)) z (.val b)) := fun B O₀ A s σ v Q E hh st r hQ => by
  simp only [Rd, RdL] at r
  obtain ⟨t, o, vs, rfl, ho, hT, u1, _, rfl, r1, u2, _, rfl, r2, rfl⟩ := r
  obtain ⟨g1, g2⟩ := exc_get ho
  refine wpAny_assign_Tuple hh (hT.isTuple g2) rfl rfl fun h₁ he₁ => ?_
  have y1 : Sh s { s with heap := h₁ } := .mkh (Kp.fresh he₁)
  have st1 := st.sh y1
  show wpAny _ _ (assignInOrder [assign (.Name x px) env, assign (.Name z pz) env] [u1, u2]) _ _ _
  refine assignInOrder_cons (wpAny_assign_Name (st1.storeV hk hx (st.e.toStO.rd y1 r1) fun s2 st2 sb2 _ => ?_))
  exact assignInOrder_cons (wpAny_assign_Name (st2.storeV hk' hz (Rd.mono sb2 b (st.e.toStO.rd y1 r2)) fun s3 st3 _ _ => assignInOrder_nil (hQ s3 st3)))
end Mine
end
section
open PySem PySem.Spec PySem.Calls PyProof.Rows PySem.W
namespace Mine
variable {p : Program} {w : World} {K : Frag} {n : Nat} {env : Env} {σ : Store} {N N' : Store → Prop} {R : D → Prop} {rest : List Stmt}

/-- what a target does ahead of its store: nothing -/
noncomputable def GoOk (p : Program) (w : World) (tp : Bool) (target : Expr) : Prop := ∀ (A : Around) (s : Shared) (I : Addr) (o : Obj) (v : Value) (Q : Unit → Shared → Prop) (E : Value → Shared → Prop),
  s.heap.get? I = some o → (tp = true → o.cls = .type "list_iterator") → Q () s → wpAny (model p w) A (letOwnedTupleGo target (.ref I) v) Q E s
theorem GoOk.name {tp : Bool} {x : Str} {pos : Pos} : GoOk p w tp (.Name x pos) := fun A s I o v Q E _ _ h => wpAny_pure h
theorem GoOk.tuple {es : List Expr} {k : Nat} {pos : Pos} : GoOk p w true (.Tuple es k pos) := fun A s I o v Q E ho hc h => by
  have hc := hc rfl
  cases v <;> first
    | exact wpAny_pure h
    | (unfold letOwnedTupleGo
       dsimp only
       refine wpAny_bind (wpAny_load ho ?_)
       rw [hc]
       cases o.data with
       | fields vs => exact wpAny_pure h
       | _ => exact wpAny_pure h)
theorem StS.there {B : Base} {O₀ : List Addr} {s : Shared} (st : StS p w K B O₀ env σ s) {a : Addr} (h : a ∈ O₀) : ∃ o, s.heap.get? a = some o := (st.e.bd a (muts_base a h)).2.2

theorem X.for {tp : Bool} {target iter : Expr} {body : List Stmt} {pos : Pos} {ds : List D} {f : D → Store → Store} (Inv : Nat → Store → Prop) (hi : EvW p w K n env tp σ iter ds) (hcn : (env.cells.map (·.1)).Nodup)
    (ha : ∀ d ∈ ds, Asg p w K env target d (f d)) (hgo : GoOk p w tp target) (h0 : Inv 0 σ)
    (step : ∀ i d σ', ds[i]? = some d → Inv i σ' → X p w K n env (f d σ') body (Inv (i + 1)) R) (hr : ∀ σ', Inv ds.length σ' → X p w K n env σ' rest N R)
    (hs : ∀ x, foldedSetIterable iter env x = pure x := by intro _; rfl) : X p w K n env σ (.For target iter body [] pos :: rest) N R := by
  refine X.mk fun B O₀ A s Q E ok st hN hR => ?_
  refine wpAny_execs_cons (wpAny_For (hi (muts env σ O₀) A s _ E ok st.e fun s₁ s₂ I fp P St y1 y2 wk => ?_) hs)
  have st₁ := st.sh y1
  have gone := st₁.e.toStO.gone wk.new
  obtain ⟨oI, hoI, _⟩ := wk.there 0 _ wk.st
  have stB : StS p w K (baseAt env σ s₁) ([I] ++ O₀) env σ s₂ := st₁.aside (ext := [I]) (B' := baseAt env σ s₁) y2 (fun a ha => List.mem_singleton.mp ha ▸ gone.1) (fun a ha => List.mem_singleton.mp ha ▸ ⟨oI, hoI⟩) (exc_keep.trans y2.kp) y2.os y2.gens fun a _ _ h => by
    show exc s₁.heap (ownP env σ) a = none
    rw [exc, if_pos]
    simp only [ownP, List.mem_cons, List.mem_append]
    exact h
  have hg : (baseAt env σ s₁).look I = none := by
    show exc s₁.heap (ownP env σ) I = none
    unfold exc; split
    · rfl
    · exact gone.1
  have offO : ∀ a ∈ O₀, a ≠ I := fun a ha q => gone.2.1 (q ▸ muts_base a ha)
  have seen : ∀ b o, b ∉ muts env σ O₀ → s₁.heap.get? b = some o → (baseAt env σ s₁).look b = some o := fun b o hb e => exc_of (fun q => hb (ownP_muts q)) e
  refine codeAny_forLoop_any (fun k s' => ∃ i σ', k = ds.length + 1 - i ∧ i ≤ ds.length ∧ Inv i σ' ∧ StS p w K (baseAt env σ s₁) ([I] ++ O₀) env σ' s' ∧ St i s'.heap) ?_ (ds.length + 1) ⟨0, σ, rfl, Nat.zero_le _, h0, stB, wk.st⟩
  rintro k s' ⟨i, σ', rfl, hle, hinv, st', hSt⟩
  by_cases hlt : i < ds.length
  · refine (wk.W A ok.hand).item i s' _ _ hlt hSt fun v h' tk hP hSt' hk => ?_
    obtain ⟨o', ho', hc'⟩ := wk.there (i + 1) h' hSt'
    have k' : ∀ b o, b ≠ I → s'.heap.get? b = some o → h'.get? b = some o := fun b o hb e => hk b o (fun q => hb (List.mem_singleton.mp q)) e
    have st3 : StS p w K (baseAt env σ s₁) ([I] ++ O₀) env σ' { s' with heap := h', toks := tk } := st'.walk hcn (by simp) hg gone.2.2 (fun a ha => ha) (fun a ha => by
      rcases List.mem_append.mp ha with q | q
      · exact List.mem_singleton.mp q ▸ ⟨o', ho'⟩
      · obtain ⟨o, ho⟩ := st'.there (List.mem_append_right _ q); exact ⟨o, k' a o (offO a q) ho⟩) k'
    refine hgo A _ I o' v _ _ ho' hc' ?_
    have hd : ds[i]? = some ds[i] := by simp [hlt]
    have nown : ∀ b, b ∉ muts env σ O₀ → (∃ o, s₁.heap.get? b = some o) → b ∉ ownP env σ' := fun b hb ⟨o, ho⟩ q => by
      have := (st'.cellOwn hcn q).1
      rw [seen b o hb ho] at this; cases this
    have sub : Sub (exc s₁.heap (muts env σ O₀)) (exc h' (muts env σ' ([I] ++ O₀))) := fun b o e c => by
      obtain ⟨h1, h2⟩ := exc_get e
      have ot := st₁.e.wd.off h2 (not_tab_cls c)
      refine exc_of (fun q => ?_) (st3.keep.get b o ot.1 ot.2 (seen b o h1 h2))
      rcases muts_own q with q | q
      · exact nown b h1 ⟨o, h2⟩ q
      · rcases List.mem_append.mp q with q | q
        · rw [List.mem_singleton.mp q, gone.1] at h2; cases h2
        · exact h1 (muts_base b q)
    have rd : Rd p w (exc h' (muts env σ' ([I] ++ O₀))) ds[i] v := Rd.mono sub _ (wk.rd i v _ hP hd)
    refine ha _ (List.getElem_mem hlt) _ _ A _ σ' v _ _ ok.hand st3.rebase rd fun s4 st4 => ?_
    refine (step i _ σ' hd hinv).run _ _ A s4 _ _ ok st4 (fun s5 σ5 hi5 st5 => ?_) fun u s5 σ5 d5 hd5 st5 rd5 => ?_
    · refine ⟨ds.length + 1 - (i + 1), by omega, i + 1, σ5, rfl, hlt, hi5, st3.back hcn st5, ?_⟩
      refine (wk.W A ok.hand).frame (i + 1) h' _ hSt' fun b hb o e => ?_
      rcases wk.fp b hb with rfl | ⟨h1, h2, h3, h4⟩
      · refine st5.keep.get b o (fun q => ?_) (fun q => ?_) (exc_of (fun q => (st3.cellOwn hcn q).2.1 (by simp)) e)
        · subst q; exact absurd gone.2.2 (by decide)
        · subst q; exact absurd gone.2.2 (by decide)
      · exact st5.keep.get b o h2 h3 (exc_of (nown b h1 h4) e)
    · refine hR u s5 σ5 d5 hd5 ?_ (Rd.mono (exc_sub fun a ha => List.mem_append_right _ ha) _ rd5)
      have := (st3.back hcn st5).letGo
      exact st₁.back hcn this
  · have hE : i = ds.length := by omega
    subst hE
    refine (wk.W A ok.hand).done s' _ _ hSt fun h' tk hk => ?_
    have k' : ∀ b o, b ≠ I → s'.heap.get? b = some o → h'.get? b = some o := fun b o hb e => hk b o (fun q => hb (List.mem_singleton.mp q)) e
    refine wpAny_execs_nil ?_
    have st3 : StS p w K (baseAt env σ s₁) O₀ env σ' { s' with heap := h', toks := tk } := st'.walk hcn (by simp) hg gone.2.2 (fun a ha => List.mem_append_right _ ha) (fun a q => by
      obtain ⟨o, ho⟩ := st'.there (List.mem_append_right _ q); exact ⟨o, k' a o (offO a q) ho⟩) k'
    exact (hr σ' hinv).run B O₀ A _ Q E ok (st₁.back hcn st3) hN hR

/-- while: m is a measure -/
theorem X.while {test : Expr} {body : List Stmt} {pos : Pos} (Inv : Nat → Store → Prop) (b : Nat → Store → Bool) (k₀ : Nat) (h0 : Inv k₀ σ)
    (ht : ∀ k σ', Inv k σ' → EvB p w K n env σ' test (b k σ'))
    (step : ∀ k σ', Inv k σ' → b k σ' = true → X p w K n env σ' body (fun σ'' => ∃ k' < k, Inv k' σ'') R) (hr : ∀ k σ', Inv k σ' → b k σ' = false → X p w K n env σ' rest N R) :
    X p w K n env σ (.While test body [] pos :: rest) N R := by
  refine X.mk fun B O₀ A s Q E ok st hN hR => ?_
  refine wpAny_execs_cons (wpAny_While ?_)
  refine codeAny_whileLoop (fun k s' => ∃ σ', Inv k σ' ∧ StS p w K B O₀ env σ' s') ?_ k₀ ⟨σ, h0, st⟩
  rintro k s' ⟨σ', hinv, st'⟩
  refine ht k σ' hinv _ A s' _ _ _ ok st'.e rfl fun s₂ y => ?_
  have st2 := st'.sh y
  cases hb : b k σ' with
  | true =>
    simp only [if_true]
    exact (step k σ' hinv hb).run B O₀ A s₂ _ _ ok st2 (fun s3 σ3 ⟨k', hk', hi⟩ st3 => ⟨k', hk', σ3, hi, st3⟩) hR
  | false =>
    simp only [Bool.false_eq_true, if_false]
    exact wpAny_execs_nil ((hr k σ' hinv hb).run B O₀ A s₂ Q E ok st2 hN hR)
end Mine
end
section
open PySem PySem.Spec PySem.Calls PyProof.Rows PySem.W
namespace Mine
variable {p : Program} {w : World} {K : Frag} {n : Nat} {env : Env} {σ : Store}

section
variable {A : Around} {s : Shared}
theorem compLoop {elt target iter : Expr} {ifs : List Expr} {scope : Scope} {pos : Pos} {it acc : Value} {env : Env} {R : Result → Shared → Prop} (I : Nat → Shared → Prop)
    (turn : ∀ n s, I n s → wpAny (model p w) A (pyNext it) (fun r s₁ => match r with
      | none => R (.ok .next) s₁
      | some v => wpAny (model p w) A (letOwnedTupleGo target it v) (fun _ s₀ => wpAny (model p w) A (assign target env v) (fun _ s₂ =>
          wpAny (model p w) A (forIn ifs true fun c r => if r = true then do let ok ← isTrue c env (eval c env); pure (ForInStep.yield ok) else pure (ForInStep.yield r)) (fun ok s₃ =>
            if ok = true then wpAny (model p w) A (eval elt env) (fun x s₄ =>
              wpAny (model p w) A (call (.builtin "list.append") [acc, x]) (fun _ s₅ => ∃ m, m < n ∧ I m s₅) (notedBy (model p w) A env fun e s' => R (.error e) s') s₄) (notedBy (model p w) A env fun e s' => R (.error e) s') s₃
            else ∃ m, m < n ∧ I m s₃) (notedBy (model p w) A env fun e s' => R (.error e) s') s₂) (notedBy (model p w) A env fun e s' => R (.error e) s') s₀) (notedBy (model p w) A env fun e s' => R (.error e) s') s₁) (notedBy (model p w) A env fun e s' => R (.error e) s') s)
    (n : Nat) (h : I n s) : codeAny (model p w) A (.compLoop (.ListComp elt [⟨target, iter, ifs, 0⟩] scope pos) 0 it acc env) R s := by
  refine codeAny_loop rfl I (fun n s hI => ?_) n h
  show wpAny _ A ((compTurn (.ListComp elt [⟨target, iter, ifs, 0⟩] scope pos) 0 it acc env).onRaise (fun x => do noteFrame x env; theTreesLotGoes x)) _ _ s
  refine wpAny_noted ?_
  rw [compTurn_list]
  refine wpAny_bind (wpAny_standAt (wpAny_bind (wpAny_mono (turn n s hI) (fun r s₁ h₁ => ?_) fun _ _ h' => h')))
  cases r with
  | none => exact wpAny_pure h₁
  | some v =>
    refine wpAny_bind (wpAny_mono h₁ (fun _ s₀ h₀' => ?_) fun _ _ h' => h')
    refine wpAny_bind (wpAny_mono h₀' (fun _ s₂ h₂ => wpAny_bind (wpAny_mono h₂ (fun ok s₃ h₃ => ?_) fun _ _ h' => h')) fun _ _ h' => h')
    cases ok with
    | true =>
      simp only [if_true] at h₃ ⊢
      exact wpAny_bind (wpAny_bind (wpAny_mono h₃ (fun x s₄ h₄ => wpAny_bind (wpAny_mono h₄ (fun _ s₅ h₅ => wpAny_pure (wpAny_pure ⟨rfl, h₅⟩)) fun _ _ h' => h')) fun _ _ h' => h'))
    | false =>
      simp only [Bool.false_eq_true, if_false] at h₃ ⊢
      exact wpAny_pure ⟨rfl, h₃⟩
end

/-- the environment of a comprehension -/
noncomputable abbrev ceOf (scope : Scope) (cl : List (Str × Addr)) (env : Env) (C : Addr) : Env := compEnvC scope (cellsFrom (C + 1) scope.names cl) C env
theorem newEnvC {M : Model} {A : Around} {E : Value → Shared → Prop} {s : Shared} {scope : Scope} {cl : List (Str × Addr)} {Q : Env → Shared → Prop}
    (h : Q { scope, locals := s.heap.objs.size, globals := env.globals, cells := cellsFrom (s.heap.objs.size + 1) scope.names cl, qual := env.qual, func := none, code := env.code, frame := env.frame, builtins := env.builtins }
      { s with heap := pushCells (s.heap.push { cls := .type "dict", data := .dict #[] }) scope.names }) :
    wpAny M A (newFunctionEnv scope env.globals cl [] env.qual none .none (some env)) Q E s := by
  simp only [newFunctionEnv, Option.isSome_some, if_true]
  refine wpAny_bind (wpAny_alloc ?_)
  refine wpAny_bind (wpAny_layCells _ (fun name kind cells => by cases hkc : kind == NameKind.cell <;> simp [hkc]) _ _ _ _ ?_)
  rw [show ({ s with heap := s.heap.push { cls := .type "dict", data := .dict #[] } } : Shared).heap.objs.size = s.heap.objs.size + 1 from Heap.size_push ..]
  refine wpAny_bind ?_
  rw [List.forIn_nil]
  exact wpAny_pure (wpAny_pure h)

/-- a comprehension's target takes a datum; T: the comprehension's own objects -/
noncomputable def AsgC (p : Program) (w : World) (ce : Env) (own : List (Str × Addr)) (target : Expr) (d : D) (binds : List (Str × D)) : Prop :=
  ∀ (O : List Addr) (A : Around) (s : Shared) (v : Value) (Q : Unit → Shared → Prop) (E : Value → Shared → Prop), A.handled = none → (∃ m, s.heap.Ns ce.locals m) → (∀ z ∈ own, ∃ u, s.heap.IsCell z.2 u) → (∀ z ∈ own, z.2 ≠ ce.locals) →
    ce.locals ∈ O → (∀ z ∈ own, z.2 ∈ O) → Rd p w (exc s.heap O) d v →
    (∀ h' tk, (∃ m, h'.Ns ce.locals m) → (∀ z ∈ own, ∃ u, h'.IsCell z.2 u) → (∀ x d, binds.lookup x = some d → ∃ u, Bnd ce h' x u ∧ Rd p w (exc h' O) d u) → (∀ b o, b ≠ ce.locals → b ∉ own.map (·.2) → s.heap.get? b = some o → h'.get? b = some o) →
      Q () { s with heap := h', toks := tk }) → wpAny (model p w) A (assign target ce v) Q E s
theorem AsgC.name {ce : Env} {own : List (Str × Addr)} {x : Str} {pos : Pos} {d : D} (hk : ce.kindOf x = some .local) (hkd : ce.scope.kind = .function) (hx : okName x = true) : AsgC p w ce own (.Name x pos) d [(x, d)] :=
  fun O A s v Q E hh ⟨m, hn⟩ hc hne hO hO' r hQ => by
    have hp : (ce.scope.kind == .class || (ce.scope.kind == .module && ce.locals != ce.globals)) = false := by rw [hkd]; rfl
    refine wpAny_assign_Name (wpAny_storeName_local hk hn (fun h' hn' hs' => hQ h' _ ⟨_, hn'⟩ (fun z hz => let ⟨u, hu⟩ := hc z hz; ⟨u, hu.sameBut hs' (hne z hz)⟩) (fun y e hy => ?_) fun b o hb _ e => (hs'.2 b hb).trans e) hp)
    rw [List.lookup_cons] at hy
    by_cases e1 : y = x
    · subst e1
      simp at hy; subst hy
      exact ⟨v, ⟨hx, .inl ⟨hk, _, hn', by simp⟩⟩, Rd.mono (sub_turn hO hs' fun a ha => ha) _ r⟩
    · have : (y == x) = false := by simpa using e1
      rw [this] at hy; cases hy
theorem AsgC.cell {ce : Env} {own : List (Str × Addr)} {x : Str} {pos : Pos} {d : D} {c : Addr} (hk : ce.kindOf x = some .cell) (hkd : ce.scope.kind = .function) (hx : okName x = true) (hc : ce.cells.lookup x = some c) (hown : own = [(x, c)]) : AsgC p w ce own (.Name x pos) d [(x, d)] :=
  fun O A s v Q E hh ⟨m, hn⟩ hcs hne hO hO' r hQ => by
    subst hown
    obtain ⟨u, hu⟩ := hcs _ (List.mem_singleton.mpr rfl)
    have hcl := hne _ (List.mem_singleton.mpr rfl)
    refine wpAny_assign_Name (wpAny_storeName_cell hkd hk hc hu fun h' hi' hs' => hQ h' s.toks ⟨m, hn.sameBut hs' (Ne.symm hcl)⟩ (fun z hz => ?_) (fun y e hy => ?_) fun b o _ hb e => (hs'.2 b (fun q => hb (by simp [q]))).trans e)
    · rw [List.mem_singleton.mp hz]; exact ⟨_, hi'⟩
    · rw [List.lookup_cons] at hy
      by_cases e1 : y = x
      · subst e1
        simp at hy; subst hy
        exact ⟨v, ⟨hx, .inr ⟨.inl hk, c, hc, hi'⟩⟩, Rd.mono (sub_turn (hO' _ (List.mem_singleton.mpr rfl)) hs' fun a ha => ha) _ r⟩
      · have : (y == x) = false := by simpa using e1
        rw [this] at hy; cases hy
theorem AsgC.two {ce : Env} {own : List (Str × Addr)} {x z : Str} {px pz pos : Pos} {k : Nat} {a b : D} (hkd : ce.scope.kind = .function) (hk : ce.kindOf x = some .local) (hx : okName x = true) (hk' : ce.kindOf z = some .local) (hz : okName z = true) (hxz : x ≠ z) :
    AsgC p w ce own (.Tuple [.Name x px, .Name z pz] k pos) (.tup [a, b]) [(x, a), (z, b)] := fun O A s v Q E hh ⟨m, hn⟩ hc hne hO hO' r hQ => by
  have hp : (ce.scope.kind == .class || (ce.scope.kind == .module && ce.locals != ce.globals)) = false := by rw [hkd]; rfl
  simp only [Rd, RdL] at r
  obtain ⟨t, o, vs, rfl, ho, hT, u1, _, rfl, r1, u2, _, rfl, r2, rfl⟩ := r
  obtain ⟨g1, g2⟩ := exc_get ho
  refine wpAny_assign_Tuple hh (hT.isTuple g2) rfl rfl fun h₁ he₁ => ?_
  have up : ∀ b o, s.heap.get? b = some o → h₁.get? b = some o := fun b o e => he₁ b o (Nat.ne_of_lt (Heap.lt_size e)) e
  have hn₁ : h₁.Ns ce.locals m := hn.at' fun o e => up _ o e
  show wpAny _ _ (assignInOrder [assign (.Name x px) ce, assign (.Name z pz) ce] [u1, u2]) _ _ _
  refine assignInOrder_cons (wpAny_assign_Name (wpAny_storeName_local hk hn₁ (fun h₂ hn₂ hs₂ => ?_) hp))
  refine assignInOrder_cons (wpAny_assign_Name (wpAny_storeName_local hk' hn₂ (fun h₃ hn₃ hs₃ => ?_) hp))
  have sb : Sub (exc s.heap O) (exc h₃ O) := fun a o e _ => by
    obtain ⟨e1, e2⟩ := exc_get e
    have ha : a ≠ ce.locals := fun q => e1 (q ▸ hO)
    exact exc_of e1 ((hs₃.2 a ha).trans ((hs₂.2 a ha).trans (up a o e2)))
  refine assignInOrder_nil (hQ h₃ _ ⟨_, hn₃⟩ (fun y hy => let ⟨u, ⟨oo, h1, h2⟩⟩ := hc y hy; ⟨u, oo, (hs₃.2 _ (hne y hy)).trans ((hs₂.2 _ (hne y hy)).trans (up _ _ h1)), h2⟩) (fun y e hy => ?_) fun b o hb _ e => (hs₃.2 b hb).trans ((hs₂.2 b hb).trans (up b o e)))
  rw [List.lookup_cons, List.lookup_cons] at hy
  by_cases e1 : y = x
  · subst e1
    simp at hy; subst hy
    exact ⟨u1, ⟨hx, .inl ⟨hk, _, hn₃, by simp [hxz]⟩⟩, Rd.mono sb _ r1⟩
  · have q1 : (y == x) = false := by simpa using e1
    rw [q1] at hy
    by_cases e2 : y = z
    · subst e2
      simp at hy; subst hy
      exact ⟨u2, ⟨hz, .inl ⟨hk', _, hn₃, by simp⟩⟩, Rd.mono sb _ r2⟩
    · have q2 : (y == z) = false := by simpa using e2
      rw [q2] at hy; cases hy

/-- a comprehension's tests -/
noncomputable def EvT (p : Program) (w : World) (K : Frag) (n : Nat) (env : Env) (σ : Store) (ifs : List Expr) (b : Bool) : Prop :=
  ∀ (O : List Addr) (A : Around) (s : Shared) (Q : Bool → Shared → Prop) (E : Value → Shared → Prop), Ok n A → StE p w K O env σ s → (∀ s', Sh s s' → Q b s') →
    wpAny (model p w) A (forIn ifs true fun c r => if r = true then do let ok ← isTrue c env (eval c env); pure (ForInStep.yield ok) else pure (ForInStep.yield r)) Q E s
theorem EvT.nil : EvT p w K n env σ [] true := fun O A s Q E ok st hQ => wpAny_tests_nil (hQ s (.refl s))
theorem EvT.one {e : Expr} {b : Bool} (h : EvB p w K n env σ e b) : EvT p w K n env σ [e] b := fun O A s Q E ok st hQ => wpAny_tests_one (h O A s Q E _ ok st rfl hQ)

noncomputable def valS (bs : List (Str × D)) : Store := bs.map fun z => (z.1, .val z.2)
theorem lookup_valS {bs : List (Str × D)} {x : Str} : (valS bs).lookup x = (bs.lookup x).map .val := by
  induction bs with
  | nil => rfl
  | cons z r ih =>
    obtain ⟨z, d⟩ := z
    show List.lookup x ((z, Ent.val d) :: valS r) = _
    rw [List.lookup_cons, List.lookup_cons, ih]
    cases x == z <;> rfl
/-- the store of a comprehension -/
noncomputable def ceS (σ : Store) (caps : List Str) (bs : List (Str × D)) : Store := valS bs ++ σ.filter fun z => caps.contains z.1
theorem lookup_append {α : Type} {l r : List (Str × α)} {x : Str} : (l ++ r).lookup x = (l.lookup x).or (r.lookup x) := by
  induction l with
  | nil => simp
  | cons z l ih =>
    obtain ⟨z, d⟩ := z
    rw [List.cons_append, List.lookup_cons, List.lookup_cons, ih]
    cases x == z <;> rfl
theorem lookup_filter {σ : Store} {f : Str → Bool} {x : Str} {e : Ent} (h : (σ.filter fun z => f z.1).lookup x = some e) : f x = true ∧ σ.lookup x = some e := by
  induction σ with
  | nil => cases h
  | cons z r ih =>
    obtain ⟨z, d⟩ := z
    rw [List.filter_cons] at h
    rw [List.lookup_cons]
    by_cases hx : x = z
    · subst hx
      simp only [beq_self_eq_true]
      split at h
      · rw [List.lookup_cons] at h; simp at h; exact ⟨‹_›, by simp [h]⟩
      · have := ih h
        exact absurd this.1 ‹_›
    · have q : (x == z) = false := by simpa using hx
      rw [q]
      split at h
      · rw [List.lookup_cons, q] at h; exact ih h
      · exact ih h
end Mine
end
section
open PySem PySem.Spec PySem.Calls PyProof.Rows PySem.W
namespace Mine
variable {p : Program} {w : World} {K : Frag} {n : Nat} {env : Env} {σ : Store}

/-- objects that are new since s are turned -/
theorem Sh.turn {s s' : Shared} {h' : Heap} {tk : Nat} (y : Sh s s') {T : List Addr} (hT : ∀ b ∈ T, s.heap.get? b = none) (k : ∀ b o, b ∉ T → s'.heap.get? b = some o → h'.get? b = some o) : Sh s { s' with heap := h', toks := tk } := by
  refine ⟨⟨fun b o h1 h2 e => k b o (fun q => by rw [hT b q] at e; cases e) (y.kp.get b o h1 h2 e), fun ps e q => ?_, fun ps e q => ?_⟩, y.os, y.gens⟩
  · obtain ⟨m, e1, q1⟩ := y.kp.ta ps e q; exact ⟨m, k _ _ (fun q => by rw [hT _ q] at e; cases e) e1, q1⟩
  · obtain ⟨m, e1, q1⟩ := y.kp.tb ps e q; exact ⟨m, k _ _ (fun q => by rw [hT _ q] at e; cases e) e1, q1⟩
theorem sub_in {h h' : Heap} {T O : List Addr} (hT : ∀ b ∈ T, b ∈ O) (k : ∀ b o, b ∉ T → h.get? b = some o → h'.get? b = some o) : Sub (exc h O) (exc h' O) := fun a o e _ => by
  obtain ⟨h1, h2⟩ := exc_get e
  exact exc_of h1 (k a o (fun q => h1 (hT a q)) h2)

/-- what a comprehension wants -/
structure CompOk (p : Program) (w : World) (K : Frag) (n : Nat) (env : Env) (σ : Store) {α : Type} (xs : List α) (enc : α → D) (elt target : Expr) (ifs : List Expr) (scope : Scope) (cl : List (Str × Addr)) (caps : List Str) (keep : α → Bool) (g : α → D) (binds : α → List (Str × D)) : Prop where
  kind : scope.kind = .function
  names : ∀ x ∈ scope.names, x.2 = .local → scope.names.lookup x.1 = some .local
  clos : closureFor scope env = pure cl
  cap : ∀ C, ∀ x ∈ caps, ∃ c, (env.kindOf x = some .cell ∨ env.kindOf x = some .free) ∧ env.cells.lookup x = some c ∧ ((ceOf scope cl env C).kindOf x = some .cell ∨ (ceOf scope cl env C).kindOf x = some .free) ∧ (ceOf scope cl env C).cells.lookup x = some c
  asg : ∀ C, ∀ x ∈ xs, AsgC p w (ceOf scope cl env C) (cellsFrom (C + 1) scope.names []) target (enc x) (binds x)
  tests : ∀ C, ∀ x ∈ xs, EvT p w K n (ceOf scope cl env C) (ceS σ caps (binds x)) ifs (keep x)
  elt : ∀ C, ∀ x ∈ xs, keep x = true → Ev p w K n (ceOf scope cl env C) (ceS σ caps (binds x)) elt (g x)
  size : xs.length ≤ sizeLine

section
variable {α : Type} {xs : List α} {enc : α → D} {elt target iter : Expr} {ifs : List Expr} {scope : Scope} {cl : List (Str × Addr)} {caps : List Str} {keep : α → Bool} {g : α → D} {binds : α → List (Str × D)} {tp : Bool}
theorem compBlock (cc : CompOk p w K n env σ xs enc elt target ifs scope cl caps keep g binds) (hgo : GoOk p w tp target) {O : List Addr} {A : Around} {s₁ s₂ : Shared} {E : Value → Shared → Prop} {pos : Pos} {I : Addr} {fp : List Addr} {P : Nat → Value → Prop} {St : Nat → Heap → Prop}
    {RR : Value → Addr → Result → Shared → Prop} (ok : Ok n A) (st₁ : StE p w K O env σ s₁) (y2 : Sh s₁ s₂) (wk : WalkOk p w K tp O s₁ s₂ (xs.map enc) I fp P St)
    (hRR : ∀ D C s' m o ys, s₁.heap.objs.size ≤ D → s₁.heap.objs.size ≤ C → D ≠ C → s'.heap.Ns C m → s'.heap.get? D = some o → IsL o ys → (∃ T, D ∉ T ∧ RdL p w (exc s'.heap (C :: D :: (T ++ O))) ((xs.filter keep).map g) ys) → Sh s₁ s' → RR (.ref D) C (.ok .next) s') :
    wpAny (model p w) A (newList []) (fun acc s₃ => wpAny (model p w) A (newFunctionEnv scope env.globals cl [] env.qual none .none (some env)) (fun cenv s₄ =>
      codeAny (model p w) A (.compStart (.ListComp elt [⟨target, iter, ifs, 0⟩] scope pos) 0 (.ref I) acc { cenv with scope := relabel scope env }) (RR acc cenv.locals) s₄) E s₃) E s₂ := by
  refine wpAny_newObj_type (newEnvC ?_)
  dsimp only
  generalize hH2 : s₂.heap.push { cls := .type "list", dict := none, data := .seq ([] : List Value).toArray } = H2
  have hD : s₂.heap.objs.size < H2.objs.size := by rw [← hH2, Heap.size_push]; exact Nat.lt_succ_self _
  have gI := st₁.toStO.gone wk.new
  obtain ⟨oI, hoI, _⟩ := wk.there 0 _ wk.st
  have hID : I < s₂.heap.objs.size := Heap.lt_size hoI
  have h12 : s₁.heap.objs.size ≤ s₂.heap.objs.size := Nat.le_trans wk.new (Nat.le_of_lt hID)
  have h12' : s₁.heap.objs.size ≤ H2.objs.size := Nat.le_trans h12 (Nat.le_of_lt hD)
  generalize hC : H2.objs.size = C at hD h12'
  have co := cellsFrom_ok scope.names (H2.push { cls := .type "dict", data := .dict #[] }) (C + 1) [] ⟨fun _ _ hm => (nomatch hm), List.Pairwise.nil⟩ (by rw [Heap.size_push, hC]; exact Nat.le_refl _)
  rw [Heap.size_push, hC] at co
  generalize hown : cellsFrom (C + 1) scope.names [] = own at co
  have hce : ∀ c, ({ scope := relabel scope env, locals := C, globals := env.globals, cells := cellsFrom (C + 1) scope.names cl, qual := env.qual, func := none, code := env.code, frame := env.frame, builtins := env.builtins } : Env) = c → ceOf scope cl env C = c := fun c e => e ▸ rfl
  have oLow : ∀ z ∈ own, C < z.2 := fun z hz => (co.empty z.1 z.2 hz).2
  generalize hD' : s₂.heap.objs.size = Dd at hD hID h12
  generalize hO' : C :: Dd :: I :: (own.map (·.2) ++ O) = O'
  have inO : ∀ a ∈ O, a ∈ O' := fun a ha => by rw [← hO']; exact List.mem_cons_of_mem _ (List.mem_cons_of_mem _ (List.mem_cons_of_mem _ (List.mem_append_right _ ha)))
  have hCO : C ∈ O' := by rw [← hO']; exact List.mem_cons_self
  have hDO : Dd ∈ O' := by rw [← hO']; exact List.mem_cons_of_mem _ List.mem_cons_self
  have hIO : I ∈ O' := by rw [← hO']; exact List.mem_cons_of_mem _ (List.mem_cons_of_mem _ List.mem_cons_self)
  have hoO : ∀ z ∈ own, z.2 ∈ O' := fun z hz => by rw [← hO']; exact List.mem_cons_of_mem _ (List.mem_cons_of_mem _ (List.mem_cons_of_mem _ (List.mem_append_left _ (List.mem_map.mpr ⟨z, hz, rfl⟩))))
  have mO : ∀ a ∈ O', a ∈ O ∨ s₁.heap.objs.size ≤ a := fun a ha => by
    rw [← hO'] at ha
    simp only [List.mem_cons, List.mem_append, List.mem_map] at ha
    rcases ha with rfl | rfl | rfl | ⟨z, hz, rfl⟩ | h
    · exact .inr h12'
    · exact .inr h12
    · exact .inr wk.new
    · exact .inr (Nat.le_trans h12' (Nat.le_of_lt (oLow z hz)))
    · exact .inl h
  have base : ∀ {s' : Shared}, Sh s₁ s' → Sub (exc s₁.heap O) (exc s'.heap O') := fun {s'} y a o e c => by
    obtain ⟨h1, h2⟩ := exc_get e
    refine exc_of (fun q => (mO a q).elim h1 fun q => ?_) (st₁.wd.keeps y.kp h2 (not_tab_cls c))
    rw [(st₁.toStO.gone q).1] at h2; cases h2
  have hDC : Dd ≠ C := Nat.ne_of_lt hD
  have hIC : I ≠ C := Nat.ne_of_lt (Nat.lt_trans hID hD)
  have hIDn : I ≠ Dd := Nat.ne_of_lt hID
  have hDown : ∀ z ∈ own, Dd ≠ z.2 := fun z hz => Nat.ne_of_lt (Nat.lt_trans hD (oLow z hz))
  have hIown : ∀ z ∈ own, I ≠ z.2 := fun z hz => Nat.ne_of_lt (Nat.lt_trans (Nat.lt_trans hID hD) (oLow z hz))
  have hfp : ∀ b ∈ fp, b = I ∨ (s₁.heap.get? b).isSome = true := fun b hb => (wk.fp b hb).imp id fun ⟨_, _, _, o, ho⟩ => by rw [ho]; rfl
  have hold : ∀ b, (s₁.heap.get? b).isSome = true → b < s₁.heap.objs.size := fun b hb => by obtain ⟨o, ho⟩ := Option.isSome_iff_exists.mp hb; exact Heap.lt_size ho
  -- the loop
  have loop : ∀ s₄ : Shared, s₄ = { s₂ with heap := pushCells (H2.push { cls := .type "dict", data := .dict #[] }) scope.names } →
      codeAny (model p w) A (.compLoop (.ListComp elt [⟨target, iter, ifs, 0⟩] scope pos) 0 (.ref I) (.ref Dd) (ceOf scope cl env C)) (RR (.ref Dd) C) s₄ := by
    rintro s₄ rfl
    have up : ∀ b o, s₂.heap.get? b = some o → (pushCells (H2.push { cls := .type "dict", data := .dict #[] }) scope.names).get? b = some o := fun b o e => pushCells_keeps _ _ b o (Heap.get?_push_of_some _ (hH2 ▸ Heap.get?_push_of_some _ e))
    refine compLoop (fun k s' => ∃ i ys, k = xs.length + 1 - i ∧ i ≤ xs.length ∧ Sh s₁ s' ∧ (∃ m, s'.heap.Ns C m) ∧ (∀ z ∈ own, ∃ u, s'.heap.IsCell z.2 u) ∧ s'.heap.PlainList Dd ys ∧
      RdL p w (exc s'.heap O') (((xs.take i).filter keep).map g) ys.toList ∧ St i s'.heap) ?_ (xs.length + 1) ⟨0, #[], rfl, Nat.zero_le _, y2.trans (.mkh (.of up)), ?_, fun z hz => ⟨_, (co.empty z.1 z.2 hz).1⟩, ?_, by simpa using RdL.nil, ?_⟩
    · rintro k s' ⟨i, ys, rfl, hle, sh, ⟨m, hn⟩, hcs, hpl, rl, hSt⟩
      by_cases hlt : i < xs.length
      · refine (wk.W A ok.hand).item i s' _ _ (by simpa using hlt) hSt fun v h' tk hP hSt' hk => ?_
        obtain ⟨o', ho', hc'⟩ := wk.there (i + 1) h' hSt'
        refine hgo A _ I o' v _ _ ho' hc' ?_
        have k3 : ∀ b o, b ∉ [I] → s'.heap.get? b = some o → h'.get? b = some o := hk
        have sh3 : Sh s₁ { s' with heap := h', toks := tk } := sh.turn (fun b hb => List.mem_singleton.mp hb ▸ gI.1) k3
        have hx : xs[i] ∈ xs := List.getElem_mem hlt
        have rv : Rd p w (exc h' O') (enc xs[i]) v := Rd.mono (base sh3) _ (wk.rd i v _ hP (by simp [hlt]))
        have asg := cc.asg C xs[i] hx
        rw [hown] at asg
        refine asg O' A _ v _ _ ok.hand ⟨m, hn.at' fun o e => k3 _ o (by simpa using Ne.symm hIC) e⟩ (fun z hz => let ⟨u, o, e1, e2⟩ := hcs z hz; ⟨u, o, k3 _ o (by simpa using Ne.symm (hIown z hz)) e1, e2⟩) (fun z hz => Nat.ne_of_gt (oLow z hz)) hCO hoO rv fun h4 tk4 hn4 hcs4 hb4 k4 => ?_
        have k4' : ∀ b o, b ∉ C :: own.map (·.2) → h'.get? b = some o → h4.get? b = some o := fun b o hb e => k4 b o (fun q => hb (q ▸ List.mem_cons_self)) (fun q => hb (List.mem_cons_of_mem _ q)) e
        have sh4 : Sh s₁ { s' with heap := h4, toks := tk4 } := sh3.turn (T := C :: own.map (·.2)) (fun b hb => by
          rcases List.mem_cons.mp hb with rfl | hb
          · exact (st₁.toStO.gone h12').1
          · obtain ⟨z, hz, rfl⟩ := List.mem_map.mp hb; exact (st₁.toStO.gone (Nat.le_trans h12' (Nat.le_of_lt (oLow z hz)))).1) k4'
        have offT : ∀ b, b < C → b ∉ C :: own.map (·.2) := fun b hb q => by
          rcases List.mem_cons.mp q with rfl | q
          · exact Nat.lt_irrefl _ hb
          · obtain ⟨z, hz, rfl⟩ := List.mem_map.mp q; exact Nat.lt_irrefl _ (Nat.lt_trans hb (oLow z hz))
        have hpl4 : h4.PlainList Dd ys := by
          obtain ⟨j, e⟩ := hpl
          exact ⟨j, k4' _ _ (offT _ hD) (k3 _ _ (by simpa using Ne.symm hIDn) e)⟩
        have fpLow : ∀ b ∈ fp, b < Dd := fun b hb => (hfp b hb).elim (fun q => q ▸ hID) fun q => Nat.lt_of_lt_of_le (hold b q) h12
        have st4' : St (i + 1) h4 := (wk.W A ok.hand).frame _ _ _ hSt' fun b hb o e => k4' b o (offT b (Nat.lt_trans (fpLow b hb) hD)) e
        have sub4 : Sub (exc s'.heap O') (exc h4 O') := (sub_in (T := [I]) (fun b hb => List.mem_singleton.mp hb ▸ hIO) k3).trans (sub_in (T := C :: own.map (·.2)) (fun b hb => by
          rcases List.mem_cons.mp hb with rfl | hb
          · exact hCO
          · obtain ⟨z, hz, rfl⟩ := List.mem_map.mp hb; exact hoO z hz) k4')
        have stc : StE p w K O' (ceOf scope cl env C) (ceS σ caps (binds xs[i])) { s' with heap := h4, toks := tk4 } := by
          have stx := st₁.sh sh4
          refine { wd := stx.wd, bd := fun a ha => ?_, kind := cc.kind, glob := st₁.glob, bi := st₁.bi, vars := fun x e hxe => ?_ }
          · rcases mO a ha with q | q
            · exact stx.bd a q
            · have lo : lowN ≤ a := (st₁.toStO.gone q).2.2
              refine ⟨fun q => by subst q; exact absurd lo (by decide), fun q => by subst q; exact absurd lo (by decide), ?_⟩
              rw [← hO'] at ha
              simp only [List.mem_cons, List.mem_append, List.mem_map] at ha
              rcases ha with rfl | rfl | rfl | ⟨z, hz, rfl⟩ | h
              · obtain ⟨m4, o, _, _, h, _⟩ := hn4; exact ⟨o, h⟩
              · obtain ⟨j, e⟩ := hpl4; exact ⟨_, e⟩
              · exact ⟨o', k4' _ _ (offT _ (Nat.lt_trans hID hD)) ho'⟩
              · obtain ⟨u, o, h, _⟩ := hcs4 z hz; exact ⟨o, h⟩
              · exact (stx.bd a h).2.2
          · rw [ceS, lookup_append, lookup_valS] at hxe
            cases hb : (binds xs[i]).lookup x with
            | some d =>
              rw [hb] at hxe
              cases hxe
              exact hb4 x d hb
            | none =>
              rw [hb] at hxe
              obtain ⟨h1, h2⟩ := lookup_filter (f := fun z => caps.contains z) hxe
              obtain ⟨c, hk1, hc1, hk2, hc2⟩ := cc.cap C x (by simpa using h1)
              obtain ⟨v, b, _⟩ := stx.vars x e h2
              obtain ⟨ok1, ⟨hl, _⟩ | ⟨_, c', hc', hi⟩⟩ := b
              · rcases hk1 with q | q <;> rw [q] at hl <;> cases hl
              · rw [hc1] at hc'; cases hc'
                obtain ⟨v', b', r'⟩ := st₁.vars x e h2
                have : v' = v := by
                  obtain ⟨_, ⟨hl, _⟩ | ⟨_, c', hc', hi'⟩⟩ := b'
                  · rcases hk1 with q | q <;> rw [q] at hl <;> cases hl
                  · rw [hc1] at hc'; cases hc'
                    obtain ⟨o1, g1, g2⟩ := st₁.wd.cell sh4.kp hi'
                    obtain ⟨o2, g3, g4⟩ := hi
                    rw [g1] at g3; cases g3
                    rw [g2] at g4; cases g4; rfl
                subst this
                refine ⟨v', ⟨ok1, .inr ⟨hk2, c, hc2, hi⟩⟩, r'.map (base sh4) fun a ha => ?_⟩
                have mem : a ∈ O := by
                  cases e with
                  | val d => cases ha
                  | lst b ds => obtain ⟨_, hm, _⟩ := r'; rw [List.mem_singleton.mp ha]; exact hm
                  | dct b ds => obtain ⟨_, hm, _⟩ := r'; rw [List.mem_singleton.mp ha]; exact hm
                  | pil b dx f ds =>
                    obtain ⟨_, hm, hm', _⟩ := r'
                    rcases List.mem_cons.mp ha with rfl | ha
                    · exact hm
                    · rw [List.mem_singleton.mp ha]; exact hm'
                exact ⟨inO a mem, fun o e => sh4.kp.get a o (st₁.bd a mem).1 (st₁.bd a mem).2.1 e⟩
        refine cc.tests C xs[i] hx O' A _ _ _ ok stc fun s5 y5 => ?_
        have stc5 := stc.sh y5
        have e5 : ∀ b o, b ≠ tA → b ≠ tB → h4.get? b = some o → s5.heap.get? b = some o := fun b o h1 h2 e => y5.kp.get b o h1 h2 e
        have take1 : xs.take (i + 1) = xs.take i ++ [xs[i]] := by rw [List.take_add_one]; simp [hlt]
        have hiT : ∀ b, s₁.heap.objs.size ≤ b → b ≠ tA ∧ b ≠ tB := fun b hb => by
          have lo : lowN ≤ b := (st₁.toStO.gone hb).2.2
          exact ⟨fun q => by subst q; exact absurd lo (by decide), fun q => by subst q; exact absurd lo (by decide)⟩
        have fpT : ∀ b ∈ fp, b ≠ tA ∧ b ≠ tB := fun b hb => by
          rcases wk.fp b hb with rfl | ⟨_, h2, h3, _⟩
          · exact hiT _ wk.new
          · exact ⟨h2, h3⟩
        cases hkp : keep xs[i] with
        | false =>
          simp only [Bool.false_eq_true, if_false]
          refine ⟨xs.length + 1 - (i + 1), by omega, i + 1, ys, rfl, hlt, sh4.trans y5, ?_, fun z hz => ?_, ?_, ?_, ?_⟩
          · obtain ⟨m4, h4'⟩ := hn4; exact ⟨m4, stc.wd.ns y5.kp h4'⟩
          · obtain ⟨u, h⟩ := hcs4 z hz; exact ⟨u, stc.wd.cell y5.kp h⟩
          · obtain ⟨j, e⟩ := hpl4; exact ⟨j, e5 _ _ (hiT _ h12).1 (hiT _ h12).2 e⟩
          · rw [take1, List.filter_append]
            simp only [List.filter_cons, hkp, Bool.false_eq_true, if_false, List.filter_nil, List.append_nil]
            exact RdL.mono (stc.wd.sub y5.kp O') _ (RdL.mono sub4 _ rl)
          · exact (wk.W A ok.hand).frame _ _ _ st4' fun b hb o e => e5 b o (fpT b hb).1 (fpT b hb).2 e
        | true =>
          simp only [if_true]
          refine cc.elt C xs[i] hx hkp O' A _ _ _ ok stc5 fun u s6 y6 r6 => ?_
          have stc6 := stc5.sh y6
          have e6 : ∀ b o, b ≠ tA → b ≠ tB → h4.get? b = some o → s6.heap.get? b = some o := fun b o h1 h2 e => y6.kp.get b o h1 h2 (e5 b o h1 h2 e)
          have hpl6 : s6.heap.PlainList Dd ys := by obtain ⟨j, e⟩ := hpl4; exact ⟨j, e6 _ _ (hiT _ h12).1 (hiT _ h12).2 e⟩
          have hys : ys.size ≤ sizeLine := by
            have e1 := rl.length
            rw [List.length_map] at e1
            have e2 : ((xs.take i).filter keep).length ≤ (xs.take i).length := List.length_filter_le _ _
            have e3 : (xs.take i).length ≤ xs.length := by rw [List.length_take]; exact Nat.min_le_right _ _
            have e4 : ys.toList.length = ys.size := by simp
            have := cc.size
            omega
          refine wpAny_list_append_plain (hsz := hys) hpl6 fun h7 hl7 hs7 => ?_
          have k7 : ∀ b o, b ∉ [Dd] → s6.heap.get? b = some o → h7.get? b = some o := fun b o hb e => (hs7.2 b (by simpa using hb)).trans e
          have sb7 : Sub (exc s6.heap O') (exc h7 O') := sub_in (T := [Dd]) (fun b hb => List.mem_singleton.mp hb ▸ hDO) k7
          refine ⟨xs.length + 1 - (i + 1), by omega, i + 1, ys.push u, rfl, hlt, ?_, ?_, fun z hz => ?_, hl7, ?_, ?_⟩
          · exact ((sh4.trans y5).trans y6).turn (tk := s6.toks) (T := [Dd]) (fun b hb => List.mem_singleton.mp hb ▸ (st₁.toStO.gone h12).1) k7
          · obtain ⟨m4, h4'⟩ := hn4; exact ⟨m4, (stc5.wd.ns y6.kp (stc.wd.ns y5.kp h4')).sameBut hs7 (Ne.symm hDC)⟩
          · obtain ⟨v', h⟩ := hcs4 z hz; exact ⟨v', (stc5.wd.cell y6.kp (stc.wd.cell y5.kp h)).sameBut hs7 (Ne.symm (hDown z hz))⟩
          · rw [take1, List.filter_append, List.map_append]
            have : ([xs[i]].filter keep).map g = [g xs[i]] := by simp [hkp]
            rw [this, Array.toList_push]
            exact (RdL.mono sb7 _ (RdL.mono (stc5.wd.sub y6.kp O') _ (RdL.mono (stc.wd.sub y5.kp O') _ (RdL.mono sub4 _ rl)))).append (.one (Rd.mono sb7 _ r6))
          · exact (wk.W A ok.hand).frame _ _ _ st4' fun b hb o e => (hs7.2 b (Nat.ne_of_lt (fpLow b hb))).trans (e6 b o (fpT b hb).1 (fpT b hb).2 e)
      · have hE : i = xs.length := by omega
        subst hE
        refine (wk.W A ok.hand).done s' _ _ (by simpa using hSt) fun h' tk hk => ?_
        have k3 : ∀ b o, b ∉ [I] → s'.heap.get? b = some o → h'.get? b = some o := hk
        obtain ⟨j, e⟩ := hpl
        refine hRR Dd C _ m _ ys.toList h12 h12' hDC (hn.at' fun o e => k3 _ o (by simpa using Ne.symm hIC) e) (k3 _ _ (by simpa using Ne.symm hIDn) e) ⟨j, by simp⟩ ⟨I :: own.map (·.2), ?_, ?_⟩ (sh.turn (fun b hb => List.mem_singleton.mp hb ▸ gI.1) k3)
        · intro q
          rcases List.mem_cons.mp q with q | q
          · exact hIDn q.symm
          · obtain ⟨z, hz, q⟩ := List.mem_map.mp q; exact hDown z hz q.symm
        · rw [List.take_length] at rl
          have := RdL.mono (sub_in (T := [I]) (fun b hb => List.mem_singleton.mp hb ▸ hIO) k3) _ rl
          rw [← hO'] at this
          simpa using this
    · refine ⟨fun _ => none, ?_⟩
      have := (Heap.Ns.new H2 (.type "dict")).keeps (pushCells_keeps scope.names _)
      rwa [hC] at this
    · exact ⟨0, pushCells_keeps _ _ _ _ (Heap.get?_push_of_some _ (by rw [← hH2, ← hD']; exact Heap.get?_push_size _ rfl))⟩
    · exact (wk.W A ok.hand).frame _ _ _ wk.st fun b hb o e => up b o e
  subst hC
  exact codeAny_compStart_list (loop _ rfl) ((wk.W A ok.hand).self 0 _ _ _ ((wk.W A ok.hand).frame _ _ _ wk.st fun b hb o e => pushCells_keeps _ _ b o (Heap.get?_push_of_some _ (hH2 ▸ Heap.get?_push_of_some _ e))) (loop _ rfl))

theorem Ev.comp (cc : CompOk p w K n env σ xs enc elt target ifs scope cl caps keep g binds) (hi : EvW p w K n env tp σ iter (xs.map enc)) (hgo : GoOk p w tp target) {pos : Pos} (hs : ∀ x, foldedSetIterable iter env x = pure x := by intro _; rfl) :
    Ev p w K n env σ (.ListComp elt [⟨target, iter, ifs, 0⟩] scope pos) (.list ((xs.filter keep).map g)) := fun O A s Q E ok st hQ => by
  rw [eval_ListComp]
  refine wpAny_comprehension_free (use := none) rfl hs cc.clos cc.kind cc.names (hi O A s _ E ok st fun s₁ s₂ I fp P St y1 y2 wk => ?_)
  have st₁ := st.sh y1
  refine compBlock (RR := fun acc C => compPost (model p w) A E none Q acc C) cc hgo ok st₁ y2 wk fun D C s' m o ys hD hC hDC hn ho hl ⟨T, hT, rl⟩ sh => ?_
  refine ⟨m, hn, fun h' hs' => ?_⟩
  have k : ∀ b o, b ∉ [C] → s'.heap.get? b = some o → h'.get? b = some o := fun b o hb e => (hs'.2 b (by simpa using hb)).trans e
  have gC := st₁.toStO.gone hC
  have gD := st₁.toStO.gone hD
  refine hQ _ _ (y1.trans (sh.turn (tk := s'.toks) (T := [C]) (fun b hb => List.mem_singleton.mp hb ▸ gC.1) k)) ?_
  simp only [Rd]
  refine ⟨D, o, ys, rfl, exc_of gD.2.1 (k D o (by simpa using hDC) ho), hl, RdL.mono (fun a o e _ => ?_) _ rl⟩
  obtain ⟨h1, h2⟩ := exc_get e
  exact exc_of (fun q => h1 (List.mem_cons_of_mem _ (List.mem_cons_of_mem _ (List.mem_append_right _ q)))) (k a o (fun q => h1 (by rw [List.mem_singleton.mp q]; exact List.mem_cons_self)) h2)
/-- a comprehension stored at once into a plain name -/
theorem X.assignComp {N : Store → Prop} {R : D → Prop} {rest : List Stmt} {y : Str} {py pos spos : Pos} (cc : CompOk p w K n env σ xs enc elt target ifs scope cl caps keep g binds) (hi : EvW p w K n env tp σ iter (xs.map enc)) (hgo : GoOk p w tp target)
    (hcn : (env.cells.map (·.1)).Nodup) (hsw : swapsWith (.ListComp elt [⟨target, iter, ifs, 0⟩] scope pos) (some (.Name y py)) spos.line env = pure true) (hy : env.kindOf y = some .local) (hoky : okName y = true)
    (hr : X p w K n env (put σ y (.val (.list ((xs.filter keep).map g)))) rest N R) (hs : ∀ x, foldedSetIterable iter env x = pure x := by intro _; rfl) :
    X p w K n env σ (.Assign [.Name y py] (.ListComp elt [⟨target, iter, ifs, 0⟩] scope pos) spos :: rest) N R := by
  refine X.mk fun B O₀ A s Q E ok st hN hR => ?_
  refine wpAny_execs_cons ?_
  rw [exec_Assign_Name_used _ _ _ _ hsw]
  refine wpAny_bind (wpAny_standAt (wpAny_bind ?_))
  show wpAny _ A (do let _ ← comprehension (.ListComp elt [⟨target, iter, ifs, 0⟩] scope pos) scope env _ (newList []) false (eval iter env) (some (PySem.assign (.Name y py) env))) _ _ s
  refine wpAny_bind (wpAny_mono (wpAny_comprehension_free (use := some (PySem.assign (.Name y py) env)) (Q := fun _ s' => wpAny (model p w) A (execs rest env) Q E s') rfl hs cc.clos cc.kind cc.names (hi (muts env σ O₀) A s _ _ ok st.e fun s₁ s₂ I fp P St y1 y2 wk => ?_))
    (fun _ s' hq => wpAny_pure (wpAny_pure hq)) fun _ _ e => e)
  have st₁ := st.sh y1
  refine compBlock (RR := fun acc C => compPost (model p w) A E (some (PySem.assign (.Name y py) env)) (fun _ s' => wpAny (model p w) A (execs rest env) Q E s') acc C) cc hgo ok st₁.e y2 wk fun D C s' m o ys hD hC hDC hn ho hl ⟨T, hT, rl⟩ sh => ?_
  have gC := st₁.e.toStO.gone hC
  have gD := st₁.e.toStO.gone hD
  have lookN : ∀ a, s₁.heap.get? a = none → lowN ≤ a → B.look a = none := fun a h1 h2 => by
    cases e : B.look a with
    | none => rfl
    | some o =>
      have := st₁.keep.get a o (fun q => by subst q; exact absurd h2 (by decide)) (fun q => by subst q; exact absurd h2 (by decide)) e
      rw [h1] at this; cases this
  have stx : StS p w K B ([C] ++ O₀) env σ s' := st₁.aside (ext := [C]) (B' := B) sh (fun a ha => List.mem_singleton.mp ha ▸ gC.1) (fun a ha => by obtain ⟨o, _, _, h, _⟩ := hn; exact List.mem_singleton.mp ha ▸ ⟨o, h⟩) (st₁.keep.trans sh.kp) (sh.os.trans st₁.os) (fun h => sh.gens (st₁.gens h)) fun a h _ _ => h.1
  have rd : Rd p w (exc s'.heap (muts env σ ([C] ++ O₀))) (.list ((xs.filter keep).map g)) (.ref D) := by
    simp only [Rd]
    refine ⟨D, o, ys, rfl, exc_of (fun q => ?_) ho, hl, RdL.mono (exc_sub fun a ha => ?_) _ rl⟩
    · rcases muts_own q with q | q
      · exact gD.2.1 (ownP_muts q)
      · rcases List.mem_append.mp q with q | q
        · exact hDC (List.mem_singleton.mp q)
        · exact gD.2.1 (muts_base _ q)
    · rcases muts_own ha with q | q
      · exact List.mem_cons_of_mem _ (List.mem_cons_of_mem _ (List.mem_append_right _ (ownP_muts q)))
      · rcases List.mem_append.mp q with q | q
        · rw [List.mem_singleton.mp q]; exact List.mem_cons_self
        · exact List.mem_cons_of_mem _ (List.mem_cons_of_mem _ (List.mem_append_right _ (muts_base _ q)))
  show wpAny _ A (PySem.assign (.Name y py) env (.ref D)) _ _ _
  refine wpAny_assign_Name (stx.storeV (.inl hy) hoky rd fun s'' st'' _ k'' => ?_)
  have hCl : C ≠ env.locals := fun q => by obtain ⟨mm, o, _, _, h, _⟩ := st₁.ns; rw [← q, gC.1] at h; cases h
  have hCc : C ∉ env.cells.map (·.2) := fun q => by obtain ⟨o, h⟩ := st₁.mem_cells q; rw [gC.1] at h; cases h
  refine ⟨m, hn.at' fun o e => k'' C o hCl hCc e, fun h3 hs3 => ?_⟩
  have := st''.walk (I := C) (O₁ := O₀) (h' := h3) (tk := s''.toks) hcn (by simp) (lookN C gC.1 gC.2.2) gC.2.2 (fun a ha => List.mem_append_right _ ha) (fun a ha => by
    obtain ⟨o, h⟩ := st''.there (List.mem_append_right _ ha)
    exact ⟨o, (hs3.2 a (fun q => by
      have h2 := gC.2.1
      exact h2 (muts_base C (q ▸ ha)))).trans h⟩) fun b o hb e => (hs3.2 b hb).trans e
  exact hr.run B O₀ A _ Q E ok this hN hR
end
end Mine
end
section
open PySem PySem.Spec PySem.Calls PyProof.Rows PySem.W
namespace Mine
variable {p : Program} {w : World} {K : Frag} {n : Nat} {env : Env} {σ : Store} {N N' : Store → Prop} {R : D → Prop} {rest : List Stmt}

theorem setItemX {A : Around} {E : Value → Shared → Prop} {s : Shared} {l : Addr} {o : Obj} {vs : List Value} {k : Int} {t : Tok} {v : Value} {Q : Unit → Shared → Prop} (ho : s.heap.get? l = some o) (hl : IsL o vs) (h0 : 0 ≤ k) (hk : k < vs.length) (hf : k < 2 ^ 63)
    (hQ : ∀ h' o', h'.get? l = some o' → IsL o' (vs.set k.toNat v) → Heap.SameBut l s.heap h' → Q () { s with heap := h' }) : wpAny (model p w) A (setItem (.ref l) (.int k t) v) Q E s := by
  have hT := (hl.isList ho).typeIs
  obtain ⟨e, rfl⟩ := hl
  unfold setItem
  refine wpAny_holding ?_
  refine wpAny_bind (wpAny_sequenceKey hT (by decide) ?_)
  refine wpAny_bind (wpAny_callSpecial?_slot (name := Str.ofString "__setitem__") hT slot_list_setitem (wpAny_call_entry slot_list_setitem hT entry_list_setitem ?_ (args_list_setitem _ _ _)))
  show wpAny _ _ (Builtin.List.listSubscript? (.int k t) >>= _) _ _ s
  refine wpAny_bind (wpAny_listSubscript_int (fitsIndex_of h0 hf) ?_)
  clear hf
  obtain ⟨k, rfl⟩ := Int.eq_ofNat_of_zero_le h0
  have hj : k < vs.toArray.size := by simp only [List.size_toArray]; omega
  have hx : vs.toArray[k]? = some vs.toArray[k] := Array.getElem?_eq_getElem hj
  show wpAny _ _ ((seqItemAt l k >>= fun r => pure (r.map (k, ·))) >>= _) _ _ s
  refine wpAny_bind (wpAny_bind (wpAny_seqItemAt ho rfl (wpAny_pure ?_)))
  rw [hx]
  show wpAny _ _ (setSeqItemAt l k v >>= _) _ _ s
  have up := PySem.IsL.update (n := e) ho (·.setIfInBounds k v)
  have e1 : vs.toArray.setIfInBounds k v = (vs.set k v).toArray := by simp
  have fin : ∃ j, (s.heap.update l (Obj.mapSeq (·.setIfInBounds k v))).get? l = some { cls := .type "list", data := .seq (vs.set k v).toArray j } := ⟨_, by rw [← e1]; exact up⟩
  obtain ⟨j, fin⟩ := fin
  refine wpAny_bind (wpAny_setSeqItemAt ho rfl ?_)
  first
    | exact wpAny_bind (wpAny_pure (wpAny_pure ⟨.none, rfl, wpAny_pure (hQ _ _ fin ⟨j, rfl⟩ (Heap.SameBut.update ..))⟩))
    | exact wpAny_pure ⟨.none, rfl, wpAny_pure (hQ _ _ fin ⟨j, rfl⟩ (Heap.SameBut.update ..))⟩
theorem RdL.set {g : Look} : ∀ {ds : List D} {vs : List Value} {k : Nat} {d : D} {v : Value}, RdL p w g ds vs → Rd p w g d v → RdL p w g (ds.set k d) (vs.set k v)
  | [], vs, k, d, v, h, _ => by simp only [RdL] at h; subst h; simpa using RdL.nil
  | a :: ds, vs, 0, d, v, h, r => by
    simp only [RdL] at h
    obtain ⟨u, vs', rfl, _, h2⟩ := h
    exact .cons r h2
  | a :: ds, vs, k + 1, d, v, h, r => by
    simp only [RdL] at h
    obtain ⟨u, vs', rfl, h1, h2⟩ := h
    exact .cons h1 (RdL.set h2 r)
theorem RdL.eraseIdx {g : Look} : ∀ {ds : List D} {vs : List Value} {k : Nat}, RdL p w g ds vs → RdL p w g (ds.eraseIdx k) (vs.eraseIdx k)
  | [], vs, k, h => by simp only [RdL] at h; subst h; simpa using RdL.nil
  | a :: ds, vs, 0, h => by
    simp only [RdL] at h
    obtain ⟨u, vs', rfl, _, h2⟩ := h
    exact h2
  | a :: ds, vs, k + 1, h => by
    simp only [RdL] at h
    obtain ⟨u, vs', rfl, h1, h2⟩ := h
    exact .cons h1 (RdL.eraseIdx h2)

/-- a statement upon own objects: a small step in StS -/
noncomputable def Stp (p : Program) (w : World) (K : Frag) (n : Nat) (env : Env) (σ : Store) (st : Stmt) (σ' : Store) : Prop :=
  ∀ (B : Base) (O₀ : List Addr) (A : Around) (s : Shared) (Q : Flow → Shared → Prop) (E : Value → Shared → Prop), Ok n A → StS p w K B O₀ env σ s → (∀ s', StS p w K B O₀ env σ' s' → Q .next s') → wpAny (model p w) A (exec st env) Q E s
theorem X.step {st : Stmt} {σ' : Store} (h : Stp p w K n env σ st σ') (hr : X p w K n env σ' rest N R) : X p w K n env σ (st :: rest) N R :=
  X.mk fun B O₀ A s Q E ok s0 hN hR => wpAny_execs_cons (h B O₀ A s _ E ok s0 fun s' st' => hr.run B O₀ A s' Q E ok st' hN hR)
/-- the store seen otherwise -/
theorem X.weak {b : List Stmt} {σ' : Store} (hn : (σ'.map (·.1)).Nodup) (h : ∀ x e, σ'.lookup x = some e → σ.lookup x = some e ∨ ∃ e₀ d, σ.lookup x = some e₀ ∧ e₀.view = some d ∧ e = .val d) (hx : X p w K n env σ' b N R) : X p w K n env σ b N R :=
  X.mk fun B O₀ A s Q E ok st hN hR => hx.run B O₀ A s Q E ok (st.weak hn h) hN hR

/-- an own list of σ at x -/
theorem StS.ownL {B : Base} {O₀ : List Addr} {s : Shared} (st : StS p w K B O₀ env σ s) {x : Str} {a : Addr} {ds : List D} (hx : σ.lookup x = some (.lst a ds)) :
    Bnd env s.heap x (.ref a) ∧ ∃ o vs, s.heap.get? a = some o ∧ IsL o vs ∧ RdL p w (exc s.heap (muts env σ O₀)) ds vs := by
  obtain ⟨v, b, rfl, _, o, vs, h⟩ := st.e.vars x _ hx
  exact ⟨b, o, vs, h⟩
theorem StS.ownK {B : Base} {O₀ : List Addr} {s : Shared} (st : StS p w K B O₀ env σ s) {x : Str} {a : Addr} {ks : List (Str × D)} (hx : σ.lookup x = some (.dct a ks)) :
    Bnd env s.heap x (.ref a) ∧ ∃ o kvs, s.heap.get? a = some o ∧ IsK p w a o kvs ∧ RdK p w (exc s.heap (muts env σ O₀)) ks kvs := by
  obtain ⟨v, b, rfl, _, o, vs, h⟩ := st.e.vars x _ hx
  exact ⟨b, o, vs, h⟩
theorem StS.turnL {B : Base} {O₀ : List Addr} {s : Shared} (st : StS p w K B O₀ env σ s) {x : Str} {a : Addr} {ds ds' : List D} (hx : σ.lookup x = some (.lst a ds)) {h' : Heap} {tk : Nat} (hs : Heap.SameBut a s.heap h') {o : Obj} {vs : List Value} (ho : h'.get? a = some o) (hl : IsL o vs)
    (r : RdL p w (exc s.heap (muts env σ O₀)) ds' vs) : StS p w K B O₀ env (put σ x (.lst a ds')) { s with heap := h', toks := tk } :=
  have hm : a ∈ muts env σ O₀ := mem_muts_own (mem_owned hx (by simp [Ent.own]))
  st.turnOwn (e := .lst a ds) (e' := .lst a ds') hx rfl (by simp [Ent.own]) (st.ownL hx).1 hs ⟨o, ho⟩ ⟨rfl, hm, o, vs, ho, hl, r.mono (sub_turn hm hs fun a ha => ha)⟩
theorem StS.turnK {B : Base} {O₀ : List Addr} {s : Shared} (st : StS p w K B O₀ env σ s) {x : Str} {a : Addr} {ks ks' : List (Str × D)} (hx : σ.lookup x = some (.dct a ks)) {h' : Heap} {tk : Nat} (hs : Heap.SameBut a s.heap h') {o : Obj} {kvs : List (Str × Value)} (ho : h'.get? a = some o) (hl : IsK p w a o kvs)
    (r : RdK p w (exc s.heap (muts env σ O₀)) ks' kvs) : StS p w K B O₀ env (put σ x (.dct a ks')) { s with heap := h', toks := tk } :=
  have hm : a ∈ muts env σ O₀ := mem_muts_own (mem_owned hx (by simp [Ent.own]))
  st.turnOwn (e := .dct a ks) (e' := .dct a ks') hx rfl (by simp [Ent.own]) (st.ownK hx).1 hs ⟨o, ho⟩ ⟨rfl, hm, o, kvs, ho, hl, r.mono (sub_turn hm hs fun a ha => ha)⟩

/-- x[i] = e -/
theorem Stp.setL {x : Str} {px spos pos : Pos} {ie e : Expr} {a : Addr} {ds : List D} {i : Int} {d : D} (hx : σ.lookup x = some (.lst a ds)) (hi : Ev p w K n env σ ie (.int i)) (he : Ev p w K n env σ e d) (h0 : 0 ≤ i) (hlt : i < ds.length) (hf : i < 2 ^ 63)
    (hs : swapsWith e (some (.Subscript (.Name x px) ie spos)) pos.line env = pure false := by rfl) : Stp p w K n env σ (.Assign [.Subscript (.Name x px) ie spos] e pos) (put σ x (.lst a (ds.set i.toNat d))) :=
  fun B O₀ A s Q E ok st hQ => wpAny_Assign_Subscript (he _ A s _ E ok st.e fun v s₁ y₁ r₁ => by
    have st₁ := st.sh y₁
    refine evalBnd st.e.kind (st₁.ownL hx).1 (hi _ A s₁ _ E ok st₁.e fun iv s₂ y₂ r₂ => ?_)
    obtain ⟨t, rfl⟩ := r₂
    have st₂ := st₁.sh y₂
    obtain ⟨b, o, vs, ho, hl, rl⟩ := st₂.ownL hx
    refine setItemX ho hl h0 (by rw [← rl.length]; exact hlt) hf fun h' o' ho' hl' hs' => ?_
    exact hQ _ (st₂.turnL (tk := s₂.toks) hx hs' ho' hl' (rl.set (st₁.e.toStO.rd y₂ r₁)))) hs

/-- a dict's entry set -/
noncomputable def setK : List (Str × D) → Str → D → List (Str × D)
  | [], x, d => [(x, d)]
  | (k, e) :: r, x, d => if k = x then (k, d) :: r else (k, e) :: setK r x d
theorem RdK.set {g : Look} {x : Str} {d : D} {v : Value} (rv : Rd p w g d v) : ∀ {ks : List (Str × D)} {kvs : List (Str × Value)}, (kvs.map (·.1)).Nodup → RdK p w g ks kvs → RdK p w g (setK ks x d) (stored kvs x v)
  | [], kvs, _, h => by
    simp only [RdK] at h; subst h
    simp only [setK, stored, List.any_nil, Bool.false_eq_true, if_false, List.nil_append, RdK]
    exact ⟨v, [], rfl, rv, rfl⟩
  | (k, e) :: ks, kvs, hn, h => by
    simp only [RdK] at h
    obtain ⟨u, kvs', rfl, h1, h2⟩ := h
    rw [List.map_cons, List.nodup_cons] at hn
    unfold setK
    by_cases hk : k = x
    · subst hk
      rw [if_pos rfl]
      have : stored ((k, u) :: kvs') k v = (k, v) :: kvs' := by
        unfold stored
        rw [if_pos (by simp)]
        rw [List.map_cons, if_pos rfl]
        congr 1
        refine (List.map_congr_left fun kv hm => ?_).trans (List.map_id _)
        rw [if_neg (show ¬ kv.1 = k from fun q => hn.1 (q ▸ List.mem_map.mpr ⟨kv, hm, rfl⟩))]; rfl
      rw [this]
      simp only [RdK]
      exact ⟨v, kvs', rfl, rv, h2⟩
    · rw [if_neg hk]
      have ih := RdK.set (x := x) rv hn.2 h2
      have : stored ((k, u) :: kvs') x v = (k, u) :: stored kvs' x v := by
        unfold stored
        rw [List.any_cons]
        simp only [hk, decide_false, Bool.false_or]
        split
        · rw [List.map_cons, if_neg hk]
        · rfl
      rw [this]
      simp only [RdK]
      exact ⟨u, _, rfl, h1, ih⟩
theorem RdK.length {g : Look} : ∀ {ks : List (Str × D)} {kvs : List (Str × Value)}, RdK p w g ks kvs → ks.length = kvs.length
  | [], kvs, h => by simp only [RdK] at h; subst h; rfl
  | (k, e) :: ks, kvs, h => by
    simp only [RdK] at h
    obtain ⟨u, kvs', rfl, _, h2⟩ := h
    rw [List.length_cons, List.length_cons, RdK.length h2]
theorem IsK.nodup {a : Addr} {o : Obj} {kvs : List (Str × Value)} {h : Heap} (ho : h.get? a = some o) (d : IsK p w a o kvs) : (kvs.map (·.1)).Nodup := by
  obtain ⟨_, _, _, _, _, _, _, _, h⟩ := d.at ho
  exact h
theorem IsK.of {h : Heap} {a : Addr} {kvs : List (Str × Value)} (ha : a ≠ sysModules) (d : h.DictOf (strKind p w) a kvs) : ∃ o, h.get? a = some o ∧ IsK p w a o kvs :=
  let ⟨o, ho, hd⟩ := Heap.dictOf_iff.mp d; ⟨o, ho, ha, hd⟩
theorem Stp.setK {x : Str} {px spos pos : Pos} {ie e : Expr} {a : Addr} {ks : List (Str × D)} {i : Str} {d : D} (hx : σ.lookup x = some (.dct a ks)) (hi : Ev p w K n env σ ie (.str i)) (he : Ev p w K n env σ e d) (hz : ks.length ≤ sizeLine)
    (hs : swapsWith e (some (.Subscript (.Name x px) ie spos)) pos.line env = pure false := by rfl) : Stp p w K n env σ (.Assign [.Subscript (.Name x px) ie spos] e pos) (put σ x (.dct a (setK ks i d))) :=
  fun B O₀ A s Q E ok st hQ => wpAny_Assign_Subscript (he _ A s _ E ok st.e fun v s₁ y₁ r₁ => by
    have st₁ := st.sh y₁
    refine evalBnd st.e.kind (st₁.ownK hx).1 (hi _ A s₁ _ E ok st₁.e fun iv s₂ y₂ r₂ => ?_)
    obtain ⟨t, rfl⟩ := r₂
    have st₂ := st₁.sh y₂
    obtain ⟨b, o, kvs, ho, hl, rl⟩ := st₂.ownK hx
    refine wpAny_setItem_pairs (knd := strKind p w) (k := i) (strKind_is p w i t) (hl.at ho) (fun h' hd' hs' => ?_) (by rw [← rl.length]; exact hz)
    obtain ⟨o', ho', hk'⟩ := IsK.of hl.1 hd'
    exact hQ _ (st₂.turnK hx hs' ho' hk' (rl.set (st₁.e.toStO.rd y₂ r₁) (hl.nodup ho)))) hs

/-- an own list that is born -/
theorem Stp.newL {x : Str} {px pos lp : Pos} {es : List Expr} {ds : List D} (h : EvLs p w K n env σ es ds) (hk : env.kindOf x = some .local ∨ env.kindOf x = some .cell) (hx : okName x = true) (hz : ds.length ≤ sizeLine)
    (hs : swapsWith (.List es lp) (some (.Name x px)) pos.line env = pure false := by rfl) (hr : ∀ a, X p w K n env (put σ x (.lst a ds)) rest N R) : X p w K n env σ (.Assign [.Name x px] (.List es lp) pos :: rest) N R :=
  X.mk fun B O₀ A s Q E ok st hN hR => wpAny_execs_cons (wpAny_Assign_Name (List_ (h _ A s _ E lp ok st.e fun vs s₁ y₁ r₁ => wpAny_newList (by
    have st₁ := st.sh y₁
    refine st₁.storeE (e := .lst s₁.heap.objs.size ds) StO.allocSh hk hx (fun a ha => by rw [List.mem_singleton.mp ha]; exact Nat.le_refl _) (fun a ha => by rw [List.mem_singleton.mp ha]; exact ⟨_, Heap.get?_push_size _ rfl⟩)
      ⟨rfl, by simp [Ent.own], _, vs, Heap.get?_push_size _ rfl, ⟨0, rfl⟩, r₁.mono fun a o e c => ?_⟩ fun s' st' _ _ => (hr _).run B O₀ A s' Q E ok st' hN hR
    obtain ⟨h1, h2⟩ := exc_get e
    refine exc_of (fun q => ?_) (Heap.get?_push_of_some _ h2)
    rcases List.mem_cons.mp q with q | q
    · exact absurd (Heap.lt_size h2) (by rw [q]; exact Nat.lt_irrefl _)
    · exact h1 q) (by rw [← r₁.length]; exact hz))) hs)
end Mine
end
section
open PySem PySem.Spec PySem.Calls PyProof.Rows PySem.W
namespace Mine
variable {p : Program} {w : World} {K : Frag} {n : Nat} {env : Env} {σ : Store} {N N' : Store → Prop} {R : D → Prop} {rest : List Stmt}

/-- what the shape of a call's arguments wants -/
structure Few (env : Env) (args : List Expr) (pos : Pos) : Prop where
  few : ((backTo pos (starEach args env)).all (fun x => !x.1) && (backToKw pos (keywordEach [] env)).all (fun x => x.1.isSome) && decide (args.length + ([] : List Keyword).length + (if ([] : List Keyword).isEmpty then 0 else 1) < 30)) = true
  ns : (backTo pos (starEach args env)).any (·.1) = false
/-- a method of an own object -/
theorem methB {A : Around} {E : Value → Shared → Prop} {s : Shared} {x name : Str} {xp apos pos : Pos} {args : List Expr} {v : Value} {T id : String} {Q : Value → Shared → Prop} (hk : env.scope.kind = .function) (b : Bnd env s.heap x v) (hT : s.TypeIs v T)
    (hd : ∀ a, v = .ref a → ∃ ob, s.heap.get? a = some ob ∧ ob.dict = none) (pa : PlainAttrs T) (slot : Slot T name id) (hty : typeOf (.builtin id) = pure (.type "method_descriptor")) (hbase : attributeBase (.Name x xp) name env (eval (.Name x xp) env) = eval (.Name x xp) env)
    (few : Few env args pos) (hline : (apos.endLine == pos.line) = true) (h : wpAny (model p w) A (spliced (backTo pos (starEach args env))) (fun vs s' => K.In s'.heap ∧ wpAny (model p w) A (call (.builtin id) (v :: vs)) Q E s') E s) :
    wpAny (model p w) A (eval (.Call (.Attribute (.Name x xp) name apos) args [] pos) env) Q E s := by
  refine wpAny_Call_method hbase few.few hline pa slot hty (evalBnd hk b ⟨hT, hd, ?_⟩)
  exact callWith_of (P := K.In) (by rw [few.ns]; rfl) (PlainF.bi (p := p) (w := w)) (evArgs few.ns h)
theorem IsL.noDict {h : Heap} {a : Addr} {o : Obj} {vs : List Value} (ho : h.get? a = some o) (hl : IsL o vs) : ∀ b, Value.ref a = .ref b → ∃ ob, h.get? b = some ob ∧ ob.dict = none := fun b e => by
  cases e; obtain ⟨n, rfl⟩ := hl; exact ⟨_, ho, rfl⟩

theorem listAppend {A : Around} {E : Value → Shared → Prop} {s : Shared} {l : Addr} {o : Obj} {vs : List Value} {v : Value} {Q : Value → Shared → Prop} (ho : s.heap.get? l = some o) (hl : IsL o vs) (hz : vs.length ≤ sizeLine)
    (hQ : ∀ h' o', h'.get? l = some o' → IsL o' (vs ++ [v]) → Heap.SameBut l s.heap h' → Q .none { s with heap := h' }) : wpAny (model p w) A (call (.builtin "list.append") [.ref l, v]) Q E s := by
  obtain ⟨e, rfl⟩ := hl
  refine wpAny_list_append_plain (items := vs.toArray) ⟨e, ho⟩ (fun h' hl' hs' => ?_) (by simpa using hz)
  obtain ⟨e', hl'⟩ := hl'
  exact hQ h' _ hl' ⟨e', by simp⟩ hs'
theorem popSeq {m k : Nat} {i : Int} (hi : i = (k : Int)) (hk : k < m) : seqIndex? i m = some k := by
  subst hi
  unfold seqIndex?
  have h1 : ¬ ((k : Int) < 0) := by omega
  simp [h1, hk]
theorem listPopAt {A : Around} {E : Value → Shared → Prop} {s : Shared} {l : Addr} {o : Obj} {vs : List Value} {k : Nat} {i : Int} {t : Tok} {v : Value} {Q : Value → Shared → Prop} (hi : i = (k : Int)) (ho : s.heap.get? l = some o) (hl : IsL o vs) (hz : vs.length ≤ sizeLine) (hv : vs[k]? = some v)
    (hQ : ∀ h' o', h'.get? l = some o' → IsL o' (vs.eraseIdx k) → Heap.SameBut l s.heap h' → Q v { s with heap := h' }) : wpAny (model p w) A (call (.builtin "list.pop") [.ref l, .int i t]) Q E s := by
  obtain ⟨e, rfl⟩ := hl
  have hk : k < vs.length := by
    rcases Nat.lt_or_ge k vs.length with h | h
    · exact h
    · rw [List.getElem?_eq_none h] at hv; cases hv
  have hz' : vs.length ≤ 16777216 := hz
  have hf : Builtin.List.listFitsIndex i = true := fitsIndex_of (by omega) (by omega)
  have hs : seqIndex? i vs.toArray.size = some k := popSeq hi (by rw [List.size_toArray]; exact hk)
  clear hi
  have hz2 : vs.toArray.size ≤ sizeLine := by rw [List.size_toArray]; exact hz
  have hv2 : vs.toArray[k]? = some v := by simpa using hv
  refine call_meets F.slot_list_pop ⟨_, ho, rfl⟩ F.entry_list_pop (F.args_list_pop_2 _ _) (PySem.MeetsSeq.list_pop_at l vs.toArray e i t k v hf hs hv2 hz2) ⟨ho, ?_⟩
  have up := PySem.IsL.update (n := e) ho (fun xs => xs.eraseIdxIfInBounds k)
  have e1 : vs.toArray.eraseIdxIfInBounds k = (vs.eraseIdx k).toArray := by simp
  exact hQ _ _ up ⟨_, by rw [e1]⟩ (Heap.SameBut.update ..)
/-- x.append(e) -/
theorem Stp.append {x : Str} {xp apos cpos pos : Pos} {e : Expr} {a : Addr} {ds : List D} {d : D} (hx : σ.lookup x = some (.lst a ds)) (he : Ev p w K n env σ e d) (hz : ds.length ≤ sizeLine)
    (hst : starEach [e] env = (false, eval e env) :: starEach [] env := by rfl) (few : Few env [e] cpos := by exact ⟨rfl, rfl⟩)
    (hbase : attributeBase (.Name x xp) "append" env (eval (.Name x xp) env) = eval (.Name x xp) env := by rfl) (hline : (apos.endLine == cpos.line) = true := by rfl)
    (hi : interactive env = false := by rfl) (hs : swapsWith (.Call (.Attribute (.Name x xp) "append" apos) [e] [] cpos) none pos.line env = pure false := by rfl) :
    Stp p w K n env σ (.Expr (.Call (.Attribute (.Name x xp) "append" apos) [e] [] cpos) pos) (put σ x (.lst a (ds ++ [d]))) := fun B O₀ A s Q E ok st hQ => by
  obtain ⟨b, o, vs, ho, hl, rl⟩ := st.ownL hx
  refine wpAny_Expr_any (methB (K := K) st.e.kind b (hl.isList ho).typeIs (hl.noDict ho) F.plainAttrs_list F.slot_list_append F.type_list_append hbase few hline ?_) hi hs
  refine spliced_more (he _ A s _ E ok st.e fun v s₁ y r => spliced_none ⟨(st.sh y).e.wd.kin, ?_⟩) hst
  have st₁ := st.sh y
  obtain ⟨b, o, vs, ho, hl, rl⟩ := st₁.ownL hx
  refine listAppend ho hl (by rw [← rl.length]; exact hz) fun h' o' ho' hl' hs' => hQ _ (st₁.turnL (tk := s₁.toks) hx hs' ho' hl' (rl.append (.one r)))
/-- y.append(x.pop(i)) -/
theorem Stp.appendPop {x z : Str} {xp zp apos cpos apos' cpos' pos : Pos} {ie : Expr} {a c : Addr} {ds es : List D} {d : D} {k : Nat} (hx : σ.lookup x = some (.lst a ds)) (hz : σ.lookup z = some (.lst c es)) (hxz : x ≠ z) (he : Ev p w K n env σ ie (.int k)) (hd : ds[k]? = some d) (hsz : ds.length ≤ sizeLine) (hsz' : es.length ≤ sizeLine)
    (hst : starEach [.Call (.Attribute (.Name x xp) "pop" apos') [ie] [] cpos'] env = (false, eval (.Call (.Attribute (.Name x xp) "pop" apos') [ie] [] cpos') env) :: starEach [] env := by rfl) (few : Few env [.Call (.Attribute (.Name x xp) "pop" apos') [ie] [] cpos'] cpos := by exact ⟨rfl, rfl⟩)
    (hst' : starEach [ie] env = (false, eval ie env) :: starEach [] env := by rfl) (few' : Few env [ie] cpos' := by exact ⟨rfl, rfl⟩)
    (hbase : attributeBase (.Name z zp) "append" env (eval (.Name z zp) env) = eval (.Name z zp) env := by rfl) (hline : (apos.endLine == cpos.line) = true := by rfl)
    (hbase' : attributeBase (.Name x xp) "pop" env (eval (.Name x xp) env) = eval (.Name x xp) env := by rfl) (hline' : (apos'.endLine == cpos'.line) = true := by rfl)
    (hi : interactive env = false := by rfl) (hs : swapsWith (.Call (.Attribute (.Name z zp) "append" apos) [.Call (.Attribute (.Name x xp) "pop" apos') [ie] [] cpos'] [] cpos) none pos.line env = pure false := by rfl) :
    Stp p w K n env σ (.Expr (.Call (.Attribute (.Name z zp) "append" apos) [.Call (.Attribute (.Name x xp) "pop" apos') [ie] [] cpos'] [] cpos) pos) (put (put σ x (.lst a (ds.eraseIdx k))) z (.lst c (es ++ [d]))) := fun B O₀ A s Q E ok st hQ => by
  obtain ⟨b, o, vs, ho, hl, rl⟩ := st.ownL hz
  refine wpAny_Expr_any (methB (K := K) st.e.kind b (hl.isList ho).typeIs (hl.noDict ho) F.plainAttrs_list F.slot_list_append F.type_list_append hbase few hline ?_) hi hs
  obtain ⟨b1, o1, vs1, ho1, hl1, rl1⟩ := st.ownL hx
  refine spliced_more (methB (K := K) st.e.kind b1 (hl1.isList ho1).typeIs (hl1.noDict ho1) F.plainAttrs_list F.slot_list_pop F.type_list_pop hbase' few' hline' ?_) hst
  refine spliced_more (he _ A s _ E ok st.e fun v s₁ y r => spliced_none ⟨(st.sh y).e.wd.kin, ?_⟩) hst'
  obtain ⟨t, rfl⟩ := r
  have st₁ := st.sh y
  obtain ⟨b, o, vs, ho, hl, rl⟩ := st₁.ownL hx
  obtain ⟨v, hv, rv⟩ := rl.get hd
  refine listPopAt rfl ho hl (by rw [← rl.length]; exact hsz) hv fun h' o' ho' hl' hs' => ?_
  have st₂ := st₁.turnL (tk := s₁.toks) hx hs' ho' hl' rl.eraseIdx
  refine spliced_none ⟨st₂.e.wd.kin, ?_⟩
  have hz₂ : (put σ x (.lst a (ds.eraseIdx k))).lookup z = some (.lst c es) := by rw [lookup_put, if_neg (Ne.symm hxz)]; exact hz
  obtain ⟨b2, o2, vs2, ho2, hl2, rl2⟩ := st₂.ownL hz₂
  have hm : a ∈ muts env σ O₀ := mem_muts_own (mem_owned hx (by simp [Ent.own]))
  have rv' : Rd p w (exc h' (muts env (put σ x (.lst a (ds.eraseIdx k))) O₀)) d v := Rd.mono (sub_turn hm hs' (muts_sub (owned_of (put_nodup st.kd) fun q e a' h1 h2 => by
    rw [lookup_put] at h1
    by_cases hq : q = x
    · rw [if_pos hq] at h1; cases h1; exact ⟨x, _, hx, h2⟩
    · rw [if_neg hq] at h1; exact ⟨q, e, h1, h2⟩))) _ rv
  exact listAppend ho2 hl2 (by rw [← rl2.length]; exact hsz') fun h3 o3 ho3 hl3 hs3 => hQ _ (st₂.turnL (tk := s₁.toks) hz₂ hs3 ho3 hl3 (rl2.append (.one rv')))

/-- x[i] += e, of ints -/
theorem Stp.aug {x : Str} {px spos pos : Pos} {ie e : Expr} {a : Addr} {ds : List D} {i u v : Int} (hx : σ.lookup x = some (.lst a ds)) (hi : Ev p w K n env σ ie (.int i)) (he : Ev p w K n env σ e (.int v)) (h0 : 0 ≤ i) (hlt : i < ds.length) (hf : i < 2 ^ 63) (hu : ds[i.toNat]? = some (.int u))
    (ha : ∀ ov iv new, augStore ie ov iv new = (do holding [new, ov, iv] (setItem ov iv new); release [new, ov, iv] []; pure .next) := by intro _ _ _; rfl) : Stp p w K n env σ (.AugAssign (.Subscript (.Name x px) ie spos) .Add e pos) (put σ x (.lst a (ds.set i.toNat (.int (u + v))))) := fun B O₀ A s Q E ok st hQ => by
  refine PySem.wpAny_AugAssign_SubscriptAny (evalBnd st.e.kind (st.ownL hx).1 (hi _ A s _ E ok st.e fun iv s₁ y₁ r₁ => ?_)) ha
  obtain ⟨t, rfl⟩ := r₁
  have st₁ := st.sh y₁
  obtain ⟨b, o, vs, ho, hl, rl⟩ := st₁.ownL hx
  obtain ⟨w', hw, rw'⟩ := rl.get hu
  refine wpAny_getItem_list (x := w') (hl.isList ho) h0 hf (by simpa using hw) ?_
  obtain ⟨t', rfl⟩ := rw'
  refine he _ A s₁ _ E ok st₁.e fun v' s₂ y₂ r₂ => ?_
  obtain ⟨t2, rfl⟩ := r₂
  refine wpAny_iadd_int ?_
  have st₂ := st₁.sh (y₂.trans (.tok s₂ (s₂.toks + 1)))
  obtain ⟨b, o, vs, ho, hl, rl⟩ := st₂.ownL hx
  exact setItemX ho hl h0 (by rw [← rl.length]; exact hlt) hf fun h' o' ho' hl' hs' => hQ _ (st₂.turnL (tk := s₂.toks + 1) hx hs' ho' hl' (rl.set ⟨_, rfl⟩))
end Mine
end
section
open PySem PySem.Spec PySem.Calls PyProof.Rows PySem.W
namespace Mine
variable {p : Program} {w : World} {K : Frag} {n : Nat} {env : Env} {σ : Store} {N N' : Store → Prop} {R : D → Prop} {rest : List Stmt}

/-- a dict display's pairs -/
noncomputable def EvPr (p : Program) (w : World) (K : Frag) (n : Nat) (env : Env) (σ : Store) (keys : List (Option Expr)) (values : List Expr) (kds : List (Str × D)) : Prop :=
  ∀ (O : List Addr) (A : Around) (s : Shared) (Q : List (Value × Value) → Shared → Prop) (E : Value → Shared → Prop) (pos : Pos), Ok n A → StE p w K O env σ s →
    (∀ vs s', Sh s s' → allStrKeys vs = true → RdK p w (exc s'.heap O) kds (strPairs vs) → Q vs s') → wpAny (model p w) A (evalPairs (pairTrees keys values env pos)) Q E s
theorem EvPr.nil : EvPr p w K n env σ [] [] [] := fun O A s Q E pos ok st hQ => pairTrees_nil_walk (hQ [] s (.refl s) rfl (by simp only [RdK]; rfl))
theorem EvPr.cons {k v : Expr} {ks : List (Option Expr)} {vs : List Expr} {x : Str} {d : D} {kds : List (Str × D)} (hk : Ev p w K n env σ k (.str x)) (hv : Ev p w K n env σ v d) (h : EvPr p w K n env σ ks vs kds) : EvPr p w K n env σ (some k :: ks) (v :: vs) ((x, d) :: kds) :=
  fun O A s Q E pos ok st hQ => pairTrees_cons_walk (hk O A s _ E ok st fun kv s₁ y₁ r₁ => hv O A s₁ _ E ok (st.sh y₁) fun vv s₂ y₂ r₂ => h O A s₂ _ E pos ok ((st.sh y₁).sh y₂) fun us s₃ y₃ ha rk => by
    obtain ⟨t, rfl⟩ := r₁
    refine hQ _ s₃ ((y₁.trans y₂).trans y₃) ha ?_
    simp only [strPairs, RdK]
    exact ⟨vv, _, rfl, ((st.sh y₁).sh y₂).toStO.rd y₃ r₂, rk⟩)
theorem RdK.keys {g : Look} : ∀ {ks : List (Str × D)} {kvs : List (Str × Value)}, RdK p w g ks kvs → kvs.map (·.1) = ks.map (·.1)
  | [], kvs, h => by simp only [RdK] at h; subst h; rfl
  | (k, e) :: ks, kvs, h => by
    simp only [RdK] at h
    obtain ⟨u, kvs', rfl, _, h2⟩ := h
    rw [List.map_cons, List.map_cons, RdK.keys h2]

theorem StS.born {B : Base} {O₀ : List Addr} {s s₁ : Shared} (st : StS p w K B O₀ env σ s) (y : Sh s s₁) {a : Addr} (ha : s.heap.objs.size ≤ a) (ht : ∃ o, s₁.heap.get? a = some o) : StS p w K B ([a] ++ O₀) env σ s₁ :=
  st.aside (ext := [a]) (B' := B) y (fun b hb => List.mem_singleton.mp hb ▸ (st.e.toStO.gone ha).1) (fun b hb => List.mem_singleton.mp hb ▸ ht) (st.keep.trans y.kp) (y.os.trans st.os) (fun h => y.gens (st.gens h)) fun a h _ _ => h.1
theorem muts_born' {O₀ : List Addr} {a b : Addr} (h : b = a ∨ b ∈ muts env σ O₀) : b ∈ muts env σ ([a] ++ O₀) := by
  rcases h with q | q
  · exact muts_base _ (by simp [q])
  · rcases muts_own q with q | q
    · exact ownP_muts q
    · exact muts_base _ (List.mem_append_right _ q)
/-- an own dict by a display -/
theorem X.newK {x : Str} {px pos dp : Pos} {keys : List (Option Expr)} {values : List Expr} {kds : List (Str × D)} (h : EvPr p w K n env σ keys values kds) (hk : env.kindOf x = some .local ∨ env.kindOf x = some .cell) (hx : okName x = true)
    (hall : keys.all (·.isSome) = true) (hl : keys.length = values.length) (h0 : keys ≠ []) (hlen : keys.length ≤ 15) (hn : (kds.map (·.1)).Nodup) (hs : swapsWith (.Dict keys values dp) (some (.Name x px)) pos.line env = pure false := by rfl)
    (hr : ∀ a, X p w K n env (put σ x (.dct a kds)) rest N R) : X p w K n env σ (.Assign [.Name x px] (.Dict keys values dp) pos :: rest) N R := X.mk fun B O₀ A s Q E ok st hN hR => by
  refine wpAny_execs_cons (wpAny_Assign_Name (wpAny_Dict_walk (knd := strKind p w) hall hl h0 hlen ?_) hs)
  have y1 : Sh s { s with heap := s.heap.push { cls := .type "dict", data := .dict #[] } } := StO.allocSh
  have hd0 : (s.heap.push { cls := .type "dict", data := .dict #[] }).DictOf (strKind p w) s.heap.objs.size [] := Heap.DictOf.new s.heap
  have st1 := st.born y1 (Nat.le_refl _) ⟨_, Heap.get?_push_size _ rfl⟩
  refine h _ A _ _ E dp ok st1.e fun vs s₂ y₂ ha rk => ?_
  have hd2 : s₂.heap.DictOf (strKind p w) s.heap.objs.size [] := by
    obtain ⟨o, ho, hd⟩ := Heap.dictOf_iff.mp hd0
    exact Heap.dictOf_iff.mpr ⟨o, st1.e.wd.keeps y₂.kp ho (not_tab_cls (by obtain ⟨es, ep, hx, _⟩ := hd; rw [hx.1]; intro e; cases e)), hd⟩
  refine display_done_str ha (by rw [rk.keys]; exact hn) hd2 fun h' hm hs' => ?_
  have k' : ∀ b o, b ∉ [s.heap.objs.size] → s₂.heap.get? b = some o → h'.get? b = some o := fun b o hb e => (hs'.2 b (by simpa using hb)).trans e
  have y3 : Sh s { s₂ with heap := h', toks := s₂.toks + vs.length } := (y1.trans y₂).turn (T := [s.heap.objs.size]) (fun b hb => List.mem_singleton.mp hb ▸ (st.e.toStO.gone (Nat.le_refl _)).1) k'
  obtain ⟨o', ho', hk'⟩ := IsK.of (w := w) (p := p) st.e.toStO.low hm
  refine st.storeE y3 (e := .dct s.heap.objs.size kds) hk hx (fun a ha => by rw [List.mem_singleton.mp ha]; exact Nat.le_refl _) (fun a ha => by rw [List.mem_singleton.mp ha]; exact ⟨_, ho'⟩)
    ⟨rfl, by simp [Ent.own], o', _, ho', hk', rk.mono fun a o e c => ?_⟩ fun s' st' _ _ => (hr _).run B O₀ A s' Q E ok st' hN hR
  obtain ⟨h1, h2⟩ := exc_get e
  have hne : a ≠ s.heap.objs.size := fun q => h1 (muts_born' (.inl q))
  exact exc_of (fun q => h1 (muts_born' ((List.mem_cons.mp q)))) (k' a o (by simpa using hne) h2)
theorem X.newK0 {x : Str} {px pos dp : Pos} (hk : env.kindOf x = some .local ∨ env.kindOf x = some .cell) (hx : okName x = true) (hs : swapsWith (.Dict [] [] dp) (some (.Name x px)) pos.line env = pure false := by rfl)
    (hr : ∀ a, X p w K n env (put σ x (.dct a [])) rest N R) : X p w K n env σ (.Assign [.Name x px] (.Dict [] [] dp) pos :: rest) N R := X.mk fun B O₀ A s Q E ok st hN hR => by
  refine wpAny_execs_cons (wpAny_Assign_Name (wpAny_Dict_empty ?_) hs)
  have hd0 : (s.heap.push { cls := .type "dict", data := .dict #[] }).DictOf (strKind p w) s.heap.objs.size [] := Heap.DictOf.new s.heap
  obtain ⟨o', ho', hk'⟩ := IsK.of (w := w) (p := p) st.e.toStO.low hd0
  exact st.storeE StO.allocSh (e := .dct s.heap.objs.size []) hk hx (fun a ha => by rw [List.mem_singleton.mp ha]; exact Nat.le_refl _) (fun a ha => by rw [List.mem_singleton.mp ha]; exact ⟨_, ho'⟩)
    ⟨rfl, by simp [Ent.own], o', _, ho', hk', by simp only [RdK]⟩ fun s' st' _ _ => (hr _).run B O₀ A s' Q E ok st' hN hR
/-- x = dict(e) -/
theorem X.copyK {x : Str} {px pos fp cp : Pos} {e : Expr} {ks : List (Str × D)} (hg : EvG p w K env (.Name "dict" fp) (.type "dict")) (he : EvV p w K n env σ e (.dict ks)) (hk : env.kindOf x = some .local ∨ env.kindOf x = some .cell) (hx : okName x = true) (hz : ks.length ≤ sizeLine)
    (hst : starEach [e] env = (false, eval e env) :: starEach [] env := by rfl) (hns : (backTo cp (starEach [e] env)).any (·.1) = false := by rfl) (hs : swapsWith (.Call (.Name "dict" fp) [e] [] cp) (some (.Name x px)) pos.line env = pure false := by rfl)
    (hr : ∀ a, X p w K n env (put σ x (.dct a ks)) rest N R) : X p w K n env σ (.Assign [.Name x px] (.Call (.Name "dict" fp) [e] [] cp) pos :: rest) N R := X.mk fun B O₀ A s Q E ok st hN hR => by
  refine wpAny_execs_cons (wpAny_Assign_Name (evCall st.e hg .ty hns (spliced_more (he _ A s _ E ok st.e fun v s₁ y r => spliced_none ⟨(st.sh y).e.wd.kin, ?_⟩) hst)) hs)
  obtain ⟨b, o, kvs, rfl, ho, hd, rk⟩ := r
  have st₁ := st.sh y
  refine kt_call_dict (knd := strKind p w) hd.mods (hd.at ho) (by rw [← rk.length]; exact hz) fun h' hd' hs' => ?_
  have k' : ∀ b o, b ∉ [s₁.heap.objs.size] → (s₁.heap.push { cls := .type "dict", data := .dict #[] }).get? b = some o → h'.get? b = some o := fun b o hb e => (hs'.2 b (by simpa using hb)).trans e
  have y3 : Sh s₁ { s₁ with heap := h', toks := s₁.toks } := (StO.allocSh (s := s₁) (o := { cls := .type "dict", data := .dict #[] })).turn (T := [s₁.heap.objs.size]) (fun b hb => List.mem_singleton.mp hb ▸ (st₁.e.toStO.gone (Nat.le_refl _)).1) k'
  obtain ⟨o', ho', hk'⟩ := IsK.of (w := w) (p := p) st₁.e.toStO.low hd'
  refine st₁.storeE y3 (e := .dct s₁.heap.objs.size ks) hk hx (fun a ha => by rw [List.mem_singleton.mp ha]; exact Nat.le_refl _) (fun a ha => by rw [List.mem_singleton.mp ha]; exact ⟨_, ho'⟩)
    ⟨rfl, by simp [Ent.own], o', _, ho', hk', rk.mono fun a o e c => ?_⟩ fun s' st' _ _ => (hr _).run B O₀ A s' Q E ok st' hN hR
  obtain ⟨h1, h2⟩ := exc_get e
  have hne : a ≠ s₁.heap.objs.size := Nat.ne_of_lt (Heap.lt_size h2)
  refine exc_of (fun q => ?_) (k' a o (by simpa using hne) (Heap.get?_push_of_some _ h2))
  rcases List.mem_cons.mp q with q | q
  · exact hne q
  · exact h1 q

/-- a, b = e -/
theorem X.asg {target e : Expr} {pos : Pos} {d : D} {f : Store → Store} (he : Ev p w K n env σ e d) (ha : Asg p w K env target d f) {elts : List Expr} {k : Nat} {tp : Pos} (ht : target = .Tuple elts k tp) (hs : swapsWithSole [target] e pos.line env = pure false) (hw : swappedStores [target] e env = pure none)
    (hr : X p w K n env (f σ) rest N R) : X p w K n env σ (.Assign [target] e pos :: rest) N R := by
  subst ht
  exact X.mk fun B O₀ A s Q E ok st hN hR => wpAny_execs_cons (Assign_Tuple (he _ A s _ E ok st.e fun v s₁ y r => ha B O₀ A s₁ σ v _ E ok.hand (st.sh y) r fun s' st' => hr.run B O₀ A s' Q E ok st' hN hR) hs hw)
/-- x, z = a, b with the stores swapped -/
theorem X.swap {x z : Str} {px pz tp pos : Pos} {k : Nat} {e : Expr} {a b : D} (he : Ev p w K n env σ e (.tup [a, b])) (hk : env.kindOf x = some .local) (hx : okName x = true) (hk' : env.kindOf z = some .local) (hz : okName z = true)
    (hs : swapsWithSole [.Tuple [.Name x px, .Name z pz] k tp] e pos.line env = pure false) (hw : swappedStores [.Tuple [.Name x px, .Name z pz] k tp] e env = pure (some [x, z]))
    (hr : X p w K n env (put (put σ z (.val b)) x (.val a)) rest N R) : X p w K n env σ (.Assign [.Tuple [.Name x px, .Name z pz] k tp] e pos :: rest) N R := by
  refine X.mk fun B O₀ A s Q E ok st hN hR => ?_
  refine wpAny_execs_cons (Assign_Tuple_swapped (he _ A s _ E ok st.e fun v s₁ y r => ?_) hs hw)
  have st₁ := st.sh y
  simp only [Rd, RdL] at r
  obtain ⟨t, o, vs, rfl, ho, hT, u1, _, rfl, r1, u2, _, rfl, r2, rfl⟩ := r
  obtain ⟨g1, g2⟩ := exc_get ho
  refine wpAny_unpackItems_tuple (items := #[u1, u2]) ok.hand (hT.isTuple g2) fun h₁ he₁ => ?_
  have y1 : Sh s₁ { s₁ with heap := h₁ } := .mkh (Kp.fresh he₁)
  have st2 := st₁.sh y1
  show wpAny _ _ (assignInOrder [bindName env z, bindName env x] [u2, u1]) _ _ _
  refine assignInOrder_cons (bindName_ (st2.storeV (.inl hk') hz (st₁.e.toStO.rd y1 r2) fun s3 st3 sb3 _ => ?_))
  exact assignInOrder_cons (bindName_ (st3.storeV (.inl hk) hx (Rd.mono sb3 a (st₁.e.toStO.rd y1 r1)) fun s4 st4 _ _ => assignInOrder_nil (hr.run B O₀ A s4 Q E ok st4 hN hR)))
end Mine
end
section
open PySem PySem.Spec PySem.Calls PyProof.Rows PySem.W
namespace Mine
variable {p : Program} {w : World} {K : Frag} {n : Nat} {env : Env} {σ : Store} {N N' : Store → Prop} {R : D → Prop} {rest : List Stmt}

theorem StS.walkT {B : Base} {O₀ O₁ : List Addr} {s : Shared} (st : StS p w K B O₀ env σ s) {T : List Addr} {h' : Heap} {tk : Nat} (hcn : (env.cells.map (·.1)).Nodup) (hI : ∀ I ∈ T, I ∈ O₀) (hg : ∀ I ∈ T, B.look I = none) (hl : ∀ I ∈ T, lowN ≤ I) (hO : ∀ a ∈ O₁, a ∈ O₀) (there : ∀ a ∈ O₁, ∃ o, h'.get? a = some o)
    (k : ∀ b o, b ∉ T → s.heap.get? b = some o → h'.get? b = some o) : StS p w K B O₁ env σ { s with heap := h', toks := tk } := by
  have hm : ∀ I ∈ T, I ∈ muts env σ O₀ := fun I h => muts_base I (hI I h)
  have sub : ∀ a, a ∈ muts env σ O₁ → a ∈ muts env σ O₀ := fun a ha => by
    simp only [muts, List.mem_cons, List.mem_append] at ha ⊢
    rcases ha with h | h | h | h
    · exact .inl h
    · exact .inr (.inl h)
    · exact .inr (.inr (.inl h))
    · exact .inr (.inr (.inr (hO a h)))
  have own : ∀ a, Own1 B O₀ a → Own1 B O₁ a := fun a h => ⟨h.1, fun q => h.2.1 (hO a q), h.2.2⟩
  have lo : ∀ b, b < lowN → b ∉ T := fun b hb q => absurd (hl b q) (Nat.not_le.mpr hb)
  have nsk : ∀ {a m}, a ∉ T → s.heap.Ns a m → h'.Ns a m := fun ha ⟨o, es, ep, x, r⟩ => ⟨o, es, ep, k _ _ ha x, r⟩
  have clk : ∀ {a v}, a ∉ T → s.heap.IsCell a v → h'.IsCell a v := fun ha ⟨o, x, r⟩ => ⟨o, k _ _ ha x, r⟩
  have sb : Sub (exc s.heap (muts env σ O₀)) (exc h' (muts env σ O₁)) := fun a o e _ => by
    obtain ⟨h1, h2⟩ := exc_get e
    exact exc_of (fun q => h1 (sub a q)) (k a o (fun q => h1 (hm a q)) h2)
  have offI : ∀ a, Own1 B O₀ a → a ∉ T := fun a h q => h.2.1 (hI a q)
  refine { e := { wd := { kok := st.e.wd.kok, kin := fun a o e => k a o (lo a (st.e.wd.kok.low a o e)) (st.e.wd.kin a o e), lim := ?_, g := ?_, b := ?_, ta := ?_, tb := ?_, bm := ?_ }, bd := fun a ha => ?_, kind := st.e.kind, glob := st.e.glob, bi := st.e.bi, vars := fun z e hz => ?_ }
           keep := ⟨fun b o h1 h2 e => k b o (fun q => by rw [hg b q] at e; cases e) (st.keep.get b o h1 h2 e), fun ps e q => ?_, fun ps e q => ?_⟩, os := st.os, gens := st.gens
           ns := let ⟨m, hn⟩ := st.ns; ⟨m, nsk (offI _ st.fl) hn⟩, cells := fun z c hc => let ⟨v, hv⟩ := st.cells z c hc; ⟨v, clk (offI _ (st.fc z c hc).1) hv⟩
           cellk := st.cellk, fl := own _ st.fl, fc := fun z c hc => ⟨own c (st.fc z c hc).1, (st.fc z c hc).2⟩, cc := st.cc, fo := fun z e a h1 h2 => ⟨own a (st.fo z e a h1 h2).1, (st.fo z e a h1 h2).2⟩, oo := st.oo, kd := st.kd }
  · obtain ⟨mc, hn, e⟩ := st.e.wd.lim; exact ⟨mc, nsk (lo _ (by decide)) hn, e⟩
  · obtain ⟨mc, hn⟩ := st.e.wd.g; exact ⟨mc, nsk (lo _ (by decide)) hn⟩
  · obtain ⟨mc, hn, r⟩ := st.e.wd.b; exact ⟨mc, nsk (lo _ (by decide)) hn, r⟩
  · obtain ⟨ps, e, q⟩ := st.e.wd.ta; exact ⟨ps, k _ _ (lo _ (by decide)) e, q⟩
  · obtain ⟨ps, e, q⟩ := st.e.wd.tb; exact ⟨ps, k _ _ (lo _ (by decide)) e, q⟩
  · obtain ⟨mg, bm, ob, q, x⟩ := st.e.wd.bm; exact ⟨mg, bm, ob, q, nsk (lo _ (by decide)) x.ns, x.name, x.ne, k _ _ (lo _ q) x.obj, x.cls, x.dict, x.data⟩
  · obtain ⟨h1, h2, o, ho⟩ := st.e.bd a (sub a ha)
    refine ⟨h1, h2, ?_⟩
    by_cases e : a ∈ T
    · rcases muts_own ha with q | q
      · simp only [ownP, List.mem_cons, List.mem_append] at q
        rcases q with q | q | q
        · exact absurd (hI a e) (q ▸ st.fl.2.1)
        · obtain ⟨⟨z, c⟩, hz, rfl⟩ := List.mem_map.mp q
          exact absurd (hI _ e) (st.fc z c (lookMem hcn hz)).1.2.1
        · obtain ⟨x, e', g1, g2⟩ := own_of_mem st.kd q
          exact absurd (hI _ e) (st.fo x e' _ g1 g2).1.2.1
      · exact there a q
    · exact ⟨o, k a o e ho⟩
  · obtain ⟨v, b, r⟩ := st.e.vars z e hz
    refine ⟨v, ⟨b.1, b.2.imp (fun ⟨a, m, n, e⟩ => ⟨a, m, nsk (offI _ st.fl) n, e⟩) fun ⟨a, c, l, e⟩ => ⟨a, c, l, clk (offI _ (st.fc z c l).1) e⟩⟩, ?_⟩
    cases e with
    | val d => exact Rd.mono sb d r
    | lst a ds => obtain ⟨e, h0, o, vs, h1, h2, r'⟩ := r; exact ⟨e, mem_muts_own (mem_owned hz (by simp [Ent.own])), o, vs, k a o (offI a (st.fo z _ a hz (by simp [Ent.own])).1) h1, h2, r'.mono sb⟩
    | dct a ds => obtain ⟨e, h0, o, vs, h1, h2, r'⟩ := r; exact ⟨e, mem_muts_own (mem_owned hz (by simp [Ent.own])), o, vs, k a o (offI a (st.fo z _ a hz (by simp [Ent.own])).1) h1, h2, r'.mono sb⟩
    | pil a dx f ds =>
      obtain ⟨e, h0, h0', vs, ⟨⟨j, h1⟩, od, hd, hc⟩, r'⟩ := r
      have ha := offI a (st.fo z _ a hz (by simp [Ent.own])).1
      have hd' := offI dx (st.fo z _ dx hz (by simp [Ent.own])).1
      exact ⟨e, mem_muts_own (mem_owned hz (by simp [Ent.own])), mem_muts_own (mem_owned hz (by simp [Ent.own])), vs, ⟨⟨j, k a _ ha h1⟩, od, k dx _ hd' hd, hc⟩, r'.mono sb⟩
  · obtain ⟨m, e1, q1⟩ := st.keep.ta ps e q; exact ⟨m, k _ _ (lo _ (by decide)) e1, q1⟩
  · obtain ⟨m, e1, q1⟩ := st.keep.tb ps e q; exact ⟨m, k _ _ (lo _ (by decide)) e1, q1⟩


theorem asgTwo {B : Base} {O₀ : List Addr} {A : Around} {s : Shared} {x z : Str} {px pz pos : Pos} {k : Nat} {a b : D} {t : Addr} {u1 u2 : Value} {Q : Unit → Shared → Prop} {E : Value → Shared → Prop} (hk : env.kindOf x = some .local ∨ env.kindOf x = some .cell) (hx : okName x = true) (hk' : env.kindOf z = some .local ∨ env.kindOf z = some .cell) (hz : okName z = true)
    (hh : A.handled = none) (st : StS p w K B O₀ env σ s) (hT : s.heap.IsTuple t #[u1, u2]) (r1 : Rd p w (exc s.heap (muts env σ O₀)) a u1) (r2 : Rd p w (exc s.heap (muts env σ O₀)) b u2)
    (hQ : ∀ s', StS p w K B O₀ env (put (put σ x (.val a)) z (.val b)) s' → Q () s') : wpAny (model p w) A (assign (.Tuple [.Name x px, .Name z pz] k pos) env (.ref t)) Q E s := by
  refine wpAny_assign_Tuple hh hT rfl rfl fun h₁ he₁ => ?_
  have y1 : Sh s { s with heap := h₁ } := .mkh (Kp.fresh he₁)
  have st1 := st.sh y1
  show wpAny _ _ (assignInOrder [assign (.Name x px) env, assign (.Name z pz) env] [u1, u2]) _ _ _
  refine assignInOrder_cons (wpAny_assign_Name (st1.storeV hk hx (st.e.toStO.rd y1 r1) fun s2 st2 sb2 _ => ?_))
  exact assignInOrder_cons (wpAny_assign_Name (st2.storeV hk' hz (Rd.mono sb2 b (st.e.toStO.rd y1 r2)) fun s3 st3 _ _ => assignInOrder_nil (hQ s3 st3)))

structure EnOk (p : Program) (w : World) (K : Frag) (O : List Addr) (s s' : Shared) (ds : List D) (e : Addr) (fp wr : List Addr) (Pt : Nat → Array Value → Prop) (St : Nat → Heap → Prop) (Mid : Nat → Addr → Heap → Prop) : Prop where
  W : ∀ A : Around, A.handled = none → WalksT p w A e fp wr ds.length Pt St Mid
  st : St 0 s'.heap
  new : ∀ b ∈ wr, s.heap.objs.size ≤ b
  there : ∀ i h, St i h → ∀ b ∈ wr, ∃ o, h.get? b = some o
  fp : ∀ b ∈ fp, b ∈ wr ∨ (b ∉ O ∧ b ≠ tA ∧ b ≠ tB ∧ ∃ o, s.heap.get? b = some o)
  rd : ∀ i vals d, Pt i vals → ds[i]? = some d → ∃ t u, vals = #[.int i t, u] ∧ Rd p w (exc s.heap O) d u
noncomputable def EvN (p : Program) (w : World) (K : Frag) (n : Nat) (env : Env) (σ : Store) (e : Expr) (ds : List D) : Prop :=
  ∀ (O : List Addr) (A : Around) (s : Shared) (Q : Value → Shared → Prop) (E : Value → Shared → Prop), Ok n A → StE p w K O env σ s →
    (∀ s₁ s₂ I fp wr Pt St Mid, Sh s s₁ → Sh s₁ s₂ → EnOk p w K O s₁ s₂ ds I fp wr Pt St Mid → Q (.ref I) s₂) → wpAny (model p w) A (eval e env) (fun x s₁ => wpAny (model p w) A (pyIter x) Q E s₁) E s

theorem X.forEnum {N : Store → Prop} {R : D → Prop} {rest : List Stmt} {x z : Str} {px pz tp : Pos} {kk : Nat} {iter : Expr} {body : List Stmt} {pos : Pos} {ds : List D} (Inv : Nat → Store → Prop) (hi : EvN p w K n env σ iter ds) (hcn : (env.cells.map (·.1)).Nodup)
    (hkx : env.kindOf x = some .local ∨ env.kindOf x = some .cell) (hx : okName x = true) (hkz : env.kindOf z = some .local ∨ env.kindOf z = some .cell) (hz : okName z = true) (h0 : Inv 0 σ)
    (step : ∀ i d σ', ds[i]? = some d → Inv i σ' → X p w K n env (put (put σ' x (.val (.int i))) z (.val d)) body (Inv (i + 1)) R) (hr : ∀ σ', Inv ds.length σ' → X p w K n env σ' rest N R)
    (hs : ∀ x, foldedSetIterable iter env x = pure x := by intro _; rfl) : X p w K n env σ (.For (.Tuple [.Name x px, .Name z pz] kk tp) iter body [] pos :: rest) N R := by
  refine X.mk fun B O₀ A s Q E ok st hN hR => ?_
  refine wpAny_execs_cons (wpAny_For (hi (muts env σ O₀) A s _ E ok st.e fun s₁ s₂ I fp wr Pt St Mid y1 y2 wk => ?_) hs)
  have st₁ := st.sh y1
  have gone : ∀ b ∈ wr, s₁.heap.get? b = none ∧ b ∉ muts env σ O₀ ∧ lowN ≤ b := fun b hb => st₁.e.toStO.gone (wk.new b hb)
  have stB : StS p w K (baseAt env σ s₁) (wr ++ O₀) env σ s₂ := st₁.aside (ext := wr) (B' := baseAt env σ s₁) y2 (fun a ha => (gone a ha).1) (fun a ha => wk.there 0 _ wk.st a ha) (exc_keep.trans y2.kp) y2.os y2.gens fun a _ _ h => by
    show exc s₁.heap (ownP env σ) a = none
    rw [exc, if_pos]
    simp only [ownP, List.mem_cons, List.mem_append]
    exact h
  have hg : ∀ b ∈ wr, (baseAt env σ s₁).look b = none := fun b hb => by
    show exc s₁.heap (ownP env σ) b = none
    unfold exc; split
    · rfl
    · exact (gone b hb).1
  have offO : ∀ a ∈ O₀, a ∉ wr := fun a ha q => (gone a q).2.1 (muts_base a ha)
  have seen : ∀ b o, b ∉ muts env σ O₀ → s₁.heap.get? b = some o → (baseAt env σ s₁).look b = some o := fun b o hb e => exc_of (fun q => hb (ownP_muts q)) e
  refine codeAny_forLoop_any (fun k s' => ∃ i σ', k = ds.length + 1 - i ∧ i ≤ ds.length ∧ Inv i σ' ∧ StS p w K (baseAt env σ s₁) (wr ++ O₀) env σ' s' ∧ St i s'.heap) ?_ (ds.length + 1) ⟨0, σ, rfl, Nat.zero_le _, h0, stB, wk.st⟩
  rintro k s' ⟨i, σ', rfl, hle, hinv, st', hSt⟩
  by_cases hlt : i < ds.length
  · refine (wk.W A ok.hand).item i s' _ _ hlt hSt fun T vals h' tk hP hTn hTup hMid hk => ?_
    refine (wk.W A ok.hand).go _ _ _ i T _ _ _ hMid fun h2 hSt' hk2 => ?_
    have k' : ∀ b o, b ∉ wr → s'.heap.get? b = some o → h2.get? b = some o := fun b o hb e => hk2 b o hb (hk b o hb e)
    have st3 : StS p w K (baseAt env σ s₁) (wr ++ O₀) env σ' { s' with heap := h2, toks := tk } := st'.walkT hcn (T := wr) (fun a ha => List.mem_append_left _ ha) hg (fun a ha => (gone a ha).2.2) (fun a ha => ha) (fun a ha => by
      rcases List.mem_append.mp ha with q | q
      · exact wk.there _ _ hSt' a q
      · obtain ⟨o, ho⟩ := st'.there (List.mem_append_right _ q); exact ⟨o, k' a o (offO a q) ho⟩) k'
    have hd : ds[i]? = some ds[i] := by simp [hlt]
    have nown : ∀ b, b ∉ muts env σ O₀ → (∃ o, s₁.heap.get? b = some o) → b ∉ ownP env σ' := fun b hb ⟨o, ho⟩ q => by
      have := (st'.cellOwn hcn q).1
      rw [seen b o hb ho] at this; cases this
    have sub : Sub (exc s₁.heap (muts env σ O₀)) (exc h2 (muts env σ' (wr ++ O₀))) := fun b o e c => by
      obtain ⟨h1, h2'⟩ := exc_get e
      have ot := st₁.e.wd.off h2' (not_tab_cls c)
      refine exc_of (fun q => ?_) (st3.keep.get b o ot.1 ot.2 (seen b o h1 h2'))
      rcases muts_own q with q | q
      · exact nown b h1 ⟨o, h2'⟩ q
      · rcases List.mem_append.mp q with q | q
        · rw [(gone b q).1] at h2'; cases h2'
        · exact h1 (muts_base b q)
    obtain ⟨t, u, rfl, ru⟩ := wk.rd i vals _ hP hd
    have hTw := (wk.W A ok.hand).apart i T h' hMid
    have hTup2 : h2.IsTuple T #[.int i t, u] := by obtain ⟨o, h1, r⟩ := hTup; exact ⟨o, hk2 T o hTw h1, r⟩
    refine asgTwo (a := .int i) (b := ds[i]) hkx hx hkz hz ok.hand st3.rebase hTup2 ⟨t, rfl⟩ (Rd.mono sub _ ru) fun s4 st4 => ?_
    refine (step i _ σ' hd hinv).run _ _ A s4 _ _ ok st4 (fun s5 σ5 hi5 st5 => ?_) fun u s5 σ5 d5 hd5 st5 rd5 => ?_
    · refine ⟨ds.length + 1 - (i + 1), by omega, i + 1, σ5, rfl, hlt, hi5, st3.back hcn st5, ?_⟩
      refine (wk.W A ok.hand).frame (i + 1) h2 _ hSt' fun b hb o e => ?_
      rcases wk.fp b hb with hb | ⟨h1, h2, h3, h4⟩
      · refine st5.keep.get b o (fun q => ?_) (fun q => ?_) (exc_of (fun q => (st3.cellOwn hcn q).2.1 (List.mem_append_left _ hb)) e)
        · subst q; exact absurd (gone _ hb).2.2 (by decide)
        · subst q; exact absurd (gone _ hb).2.2 (by decide)
      · exact st5.keep.get b o h2 h3 (exc_of (nown b h1 h4) e)
    · refine hR u s5 σ5 d5 hd5 ?_ (Rd.mono (exc_sub fun a ha => List.mem_append_right _ ha) _ rd5)
      have := (st3.back hcn st5).letGo
      exact st₁.back hcn this
  · have hE : i = ds.length := by omega
    subst hE
    refine (wk.W A ok.hand).done s' _ _ hSt fun h' tk hk => ?_
    refine wpAny_execs_nil ?_
    have st3 : StS p w K (baseAt env σ s₁) O₀ env σ' { s' with heap := h', toks := tk } := st'.walkT hcn (T := wr) (fun a ha => List.mem_append_left _ ha) hg (fun a ha => (gone a ha).2.2) (fun a ha => List.mem_append_right _ ha) (fun a q => by
      obtain ⟨o, ho⟩ := st'.there (List.mem_append_right _ q); exact ⟨o, hk a o (offO a q) ho⟩) hk
    exact (hr σ' hinv).run B O₀ A _ Q E ok (st₁.back hcn st3) hN hR

/-- enumerate over a list -/
theorem EvN.list {fp pos : Pos} {arg : Expr} {ds : List D} (hg : EvG p w K env (.Name "enumerate" fp) (.type "enumerate")) (ha : Ev p w K n env σ arg (.list ds)) (he : starEach [arg] env = (false, eval arg env) :: starEach [] env := by rfl)
    (hns : (backTo pos (starEach [arg] env)).any (·.1) = false := by rfl) : EvN p w K n env σ (.Call (.Name "enumerate" fp) [arg] [] pos) ds := fun O A s Q E ok st hQ =>
  evCall st hg .ty hns (spliced_more (ha O A s _ E ok st fun v s₁ y r => spliced_none ⟨(st.sh y).wd.kin, by
    simp only [Rd] at r
    obtain ⟨a, o, vs, rfl, ho, hl, rl⟩ := r
    obtain ⟨h1, h2⟩ := exc_get ho
    have hL := hl.isList h2
    have e := rl.length
    have off := (st.sh y).wd.off h2 (not_tab_cls hl.cls)
    have lt := Heap.lt_size h2
    refine call_enumerate_list hL fun h' hE hI hsz hk => wpAny_pyIter_enum hE ?_
    refine hQ s₁ _ (s₁.heap.objs.size + 1) [s₁.heap.objs.size + 1, s₁.heap.objs.size, a] [s₁.heap.objs.size + 1, s₁.heap.objs.size] _ _ _ y (.mkh (.of hk)) (EnOk.mk (fun A' hA => by rw [e]; exact WalksT.enumerate hA _ _ a (Nat.succ_ne_self _) (Nat.ne_of_lt (Nat.lt_succ_of_lt lt)) (Nat.ne_of_lt lt) vs.toArray) (by exact ⟨⟨_, hE⟩, hI, hL.at fun o e => hk _ o e⟩) ?_ ?_ ?_ ?_)
    · intro b hb
      rcases List.mem_cons.mp hb with rfl | hb
      · exact Nat.le_succ _
      · rw [List.mem_singleton.mp hb]; exact Nat.le_refl _
    · rintro i h ⟨⟨old, h1⟩, ⟨o', h2, _⟩, _⟩ b hb
      rcases List.mem_cons.mp hb with rfl | hb
      · exact ⟨_, h1⟩
      · rw [List.mem_singleton.mp hb]; exact ⟨_, h2⟩
    · intro b hb
      rcases List.mem_cons.mp hb with rfl | hb
      · exact .inl List.mem_cons_self
      · rcases List.mem_cons.mp hb with rfl | hb
        · exact .inl (List.mem_cons_of_mem _ List.mem_cons_self)
        · rw [List.mem_singleton.mp hb]; exact .inr ⟨h1, off.1, off.2, o, h2⟩
    · rintro i vals d ⟨t, x, hx, rfl⟩ hd
      obtain ⟨u, e1, r1⟩ := rl.get hd
      have : x = u := by
        have hv' : vs[i]? = some x := by simpa using hx
        rw [e1] at hv'; exact (Option.some.inj hv').symm
      exact ⟨t, x, rfl, this ▸ r1⟩⟩) he)
/-- enumerate over a text's signs -/
theorem EvN.str {fp pos : Pos} {arg : Expr} {x : Str} (hasc : x.cps.all (· < 128) = true) (hg : EvG p w K env (.Name "enumerate" fp) (.type "enumerate")) (ha : Ev p w K n env σ arg (.str x)) (he : starEach [arg] env = (false, eval arg env) :: starEach [] env := by rfl)
    (hns : (backTo pos (starEach [arg] env)).any (·.1) = false := by rfl) : EvN p w K n env σ (.Call (.Name "enumerate" fp) [arg] [] pos) (signs x) := fun O A s Q E ok st hQ =>
  evCall st hg .ty hns (spliced_more (ha O A s _ E ok st fun v s₁ y r => spliced_none ⟨(st.sh y).wd.kin, by
    obtain ⟨t, rfl⟩ := r
    refine call_enumerate_str fun h' hE hI hsz hk => wpAny_pyIter_enum hE ?_
    have hI' : h'.IsStrIter s₁.heap.objs.size "str_ascii_iterator" x t 0 := by
      have : strIterType x = "str_ascii_iterator" := by unfold strIterType; rw [if_pos hasc]
      rw [this] at hI; exact hI
    refine hQ s₁ _ (s₁.heap.objs.size + 1) [s₁.heap.objs.size + 1, s₁.heap.objs.size] [s₁.heap.objs.size + 1, s₁.heap.objs.size] _ _ _ y (.mkh (.of hk)) (EnOk.mk (fun A' hA => by rw [signs_length]; exact WalksT.enumerateD (Draws.strAscii (A := A'.in1) hA s₁.heap.objs.size x t) _ (Nat.succ_ne_self _) (by simp) (by simp)) (by exact ⟨⟨_, hE⟩, hI'⟩) ?_ ?_ (fun b hb => .inl hb) ?_)
    · intro b hb
      rcases List.mem_cons.mp hb with rfl | hb
      · exact Nat.le_succ _
      · rw [List.mem_singleton.mp hb]; exact Nat.le_refl _
    · rintro i h ⟨⟨old, h1⟩, ⟨o', h2, _⟩⟩ b hb
      rcases List.mem_cons.mp hb with rfl | hb
      · exact ⟨_, h1⟩
      · rw [List.mem_singleton.mp hb]; exact ⟨_, h2⟩
    · rintro i vals d ⟨t', u, ⟨c, t2, e1, rfl⟩, rfl⟩ hd
      simp only [signs, List.getElem?_map] at hd
      have : x.cps.toList[i]? = some c := by simpa using e1
      rw [this] at hd
      cases hd
      exact ⟨t', _, rfl, t2, rfl⟩⟩) he)
end Mine
end
section
open PySem PySem.Spec PySem.Calls PyProof.Rows PySem.W
namespace Mine
variable {p : Program} {w : World} {K : Frag} {n : Nat} {env : Env} {σ : Store} {N N' : Store → Prop} {R : D → Prop} {rest : List Stmt}

/-- a function of the text, by its place in it -/
noncomputable def fdAt (i : Nat) (c : Addr) (pm : Str) (t : Tok) : FuncData := match Challenge.pw_xt0002_01.main.body[i]? with
  | some (.FunctionDef name args body _ _ _ scope _ _ _) => { name, qualname := name, params := args, body := .stmts body, scope, globals := 3, closure := [], defaults := .none, kwdefaults := .none, pyModule := .str pm t, code := .ref c }
  | _ => default
noncomputable def fComment : FuncData := fdAt 3 44 "cpy313.doctest" 289
noncomputable def fLiberal : FuncData := fdAt 9 140 "cpy313.http.cookiejar" 397
noncomputable def fMatch : FuncData := fdAt 10 147 "cpy313.http.cookiejar" 397
noncomputable def fAP : FuncData := fdAt 12 154 "cpy313.imaplib" 445
noncomputable def fRow : FuncData := fdAt 14 161 "law_xt0002_01" 457
noncomputable def fExits : FuncData := fdAt 15 166 "law_xt0002_01" 457
noncomputable def fStuck : FuncData := fdAt 16 171 "law_xt0002_01" 457
noncomputable def fBurn : FuncData := fdAt 17 176 "law_xt0002_01" 457
noncomputable def fStays : FuncData := fdAt 18 181 "law_xt0002_01" 457
noncomputable def fFire : FuncData := fdAt 19 188 "law_xt0002_01" 457
noncomputable def fLaw : FuncData := fdAt 20 193 "law_xt0002_01" 457
noncomputable def fnTab : List (Addr × FuncData) := [(45, fComment), (141, fLiberal), (148, fMatch), (155, fAP), (162, fRow), (167, fExits), (172, fStuck), (177, fBurn), (182, fStays), (189, fFire), (194, fLaw)]
noncomputable def gTab : List (Str × Value) := [("_comment_line", .ref 45), ("EMPTYSTRING", .str "" 300), ("_Accumulator", .ref 125), ("IPV4_RE", .ref 134), ("liberal_is_HDN", .ref 141), ("user_domain_match", .ref 148), ("Int2AP", .ref 155), ("_law_row", .ref 162),
  ("_law_exits", .ref 167), ("_law_stuck", .ref 172), ("_law_burn", .ref 177), ("_law_stays", .ref 182), ("_law_fire", .ref 189)]
noncomputable def bTab : List Str := ["str", "len", "int", "abs", "divmod", "enumerate", "range", "dict", "sum", "sorted", "max", "super"]
/-- what the written heap bears of the text -/
structure KX (K : Frag) : Prop where
  fn : ∀ t ∈ fnTab, FnIn K t.1 t.2
  g : ∀ t ∈ gTab, nsIn K mainGlobals t.1 = some (some t.2)
  b : ∀ x ∈ bTab, nsIn K mainGlobals x = some none

theorem KX.f (kx : KX K) {a : Addr} {fd : FuncData} (i : Nat) (h : fnTab[i]? = some (a, fd) := by rfl) : FnIn K a fd := kx.fn _ (List.mem_of_getElem? h)
/-! texts' methods -/
theorem MethV.rstrip {x : Str} (hz : x.length ≤ sizeLine) : MethV p w K n "str.rstrip" (.str x) [] (.str (Txt.rstrip x)) := by
  rintro O A s _ vs Q E ok st ⟨t, rfl⟩ r hQ
  simp only [RdL] at r; subst r
  exact SC.rstrip (fun t' k => hQ _ _ (.tok s _) ⟨_, rfl⟩) hz

theorem Ev.methS {o : Expr} {name : Str} {apos pos : Pos} {args : List Expr} {id : String} {x : Str} {d : D} {ds : List D} (slot : Slot "str" name id) (hty : typeOf (.builtin id) = pure (.type "method_descriptor")) (ho : Ev p w K n env σ o (.str x)) (hargs : EvLs p w K n env σ args ds) (hm : MethV p w K n id (.str x) ds d)
    (hbase : attributeBase o name env (eval o env) = eval o env := by rfl) (few : Few env args pos := by exact ⟨rfl, rfl⟩) (hline : (apos.endLine == pos.line) = true := by rfl) : Ev p w K n env σ (.Call (.Attribute o name apos) args [] pos) d :=
  Ev.meth (a := .str x) F.plainAttrs_str slot hty ho.v hargs hm hbase few.few few.ns hline (show "str" ≠ "" by decide)
theorem Ev.methL {o : Expr} {name : Str} {apos pos : Pos} {args : List Expr} {id : String} {xs : List D} {d : D} {ds : List D} (slot : Slot "list" name id) (hty : typeOf (.builtin id) = pure (.type "method_descriptor")) (ho : EvV p w K n env σ o (.list xs)) (hargs : EvLs p w K n env σ args ds) (hm : MethV p w K n id (.list xs) ds d)
    (hbase : attributeBase o name env (eval o env) = eval o env := by rfl) (few : Few env args pos := by exact ⟨rfl, rfl⟩) (hline : (apos.endLine == pos.line) = true := by rfl) : Ev p w K n env σ (.Call (.Attribute o name apos) args [] pos) d :=
  Ev.meth (a := .list xs) F.plainAttrs_list slot hty ho hargs hm hbase few.few few.ns hline (show "list" ≠ "" by decide)

/-- _comment_line -/
noncomputable def cmt (x : Str) : Str := if (Txt.rstrip x).length = 0 then "#" else ("# " : Str) ++ Txt.rstrip x
theorem cmt_fn (kx : KX K) {x : Str} (hz : x.length ≤ 1000) (hz' : (Txt.rstrip x).length ≤ 1000) : Fn p w K (n + 1) 45 [.str x] (.str (cmt x)) := by
  refine Fn.intro (names := ["line"]) (kx.f (fd := fComment) 0) rfl rfl rfl rfl rfl rfl rfl ?_ rfl (by decide) (by decide) (by decide) (by decide) fun L => ?_
  · intro vs h; match vs, h with
    | [a], _ => rfl
  refine X.assign (d := .str (Txt.rstrip x)) (Ev.methS F.slot_str_rstrip F.type_str_rstrip (Ev.name rfl) EvLs.nil (MethV.rstrip (Nat.le_trans hz (by decide)))) (.inl rfl) (by decide) rfl ?_
  refine X.ite (N' := fun _ => False) (EvB.valS (Ev.name rfl) (Nat.le_trans hz' (by decide)) fun _ => rfl) (fun h => ?_) (fun h => ?_) fun _ h => h.elim
  · refine X.ret (Ev.bin (Ev.v .str) (Ev.v (Ev.name rfl)) (BinOk.addS (by simp only [sizeLine]; show 2 + _ ≤ _; omega))) ?_
    have : ¬ (Txt.rstrip x).length = 0 := by simpa using h
    rw [cmt, if_neg this]
  · refine X.ret .str ?_
    have : (Txt.rstrip x).length = 0 := by simpa using h
    rw [cmt, if_pos this]
end Mine
end
section
open PySem PySem.Spec PySem.Calls PyProof.Rows PySem.W
namespace Mine
variable {p : Program} {w : World} {K : Frag} {n : Nat} {env : Env} {σ : Store} {N N' : Store → Prop} {R : D → Prop} {rest : List Stmt}

/-! the pattern -/
noncomputable def ipCode : Array Nat := #[14, 8, 1, 2, 4294967295, 1, 1, 46, 0, 16, 46, 24, 9, 1, 4294967295, 13, 4, 8, 0, 0, 1, 6, 5, 1]
noncomputable def ipVals : Array Value := ipCode.map fun k => .int (Int.ofNat k) 0
noncomputable def driveK : Nat → Sre.M → Option Sre.M
  | 0, _ => none
  | k + 1, m => if (m.runFor 4).outcome.isSome then some (m.runFor 4) else driveK k (m.runFor 4)
noncomputable def ipRun (x : Str) : Option Sre.M := driveK 400 (Sre.forSearch ipCode x.cps 0 0 x.cps.size false)
noncomputable def ipOf (m : Sre.M) : Option Bool := match m.outcome with
  | some .matched => some true
  | some .failed => some false
  | _ => none
noncomputable def ipOut (x : Str) : Option Bool := (ipRun x).bind ipOf

theorem wp_reDrive {M : Model} {A : Around} {E : Value → Shared → Prop} {s : Shared} {Q : Sre.M → Shared → Prop} {m' : Sre.M} (h : Q m' s) : ∀ (k t : Nat) (m : Sre.M), k ≤ t → driveK k m = some m' → wpAny M A (Builtin.Re.reDrive t m) Q E s
  | 0, _, _, _, e => by cases e
  | k + 1, 0, _, hk, _ => by omega
  | k + 1, t + 1, m, hk, e => by
    unfold Builtin.Re.reDrive
    unfold driveK at e
    show wpAny M A (if (m.runFor 4).outcome.isSome = true then pure (m.runFor 4) else do rule "sre.turn"; Builtin.Re.reDrive t (m.runFor 4)) Q E s
    split at e
    · rename_i hc; cases e; rw [if_pos hc]; exact wpAny_pure h
    · rename_i hc; rw [if_neg hc]; exact wpAny_bind (wpAny_rule (wp_reDrive h k t _ (by omega) e))
theorem wp_rules {M : Model} {A : Around} {E : Value → Shared → Prop} {s : Shared} {Q : PUnit → Shared → Prop} {f : Nat → PUnit → Sem (ForInStep PUnit)} (hf : ∀ i u (Q' : ForInStep PUnit → Shared → Prop), Q' (.yield ⟨⟩) s → wpAny M A (f i u) Q' E s) (h : Q ⟨⟩ s) : ∀ l : List Nat, wpAny M A (forIn l ⟨⟩ f) Q E s
  | [] => by rw [List.forIn_nil]; exact wpAny_pure h
  | a :: l => by rw [List.forIn_cons]; exact wpAny_bind (hf a ⟨⟩ _ (wp_rules hf h l))
theorem wp_reRun {M : Model} {A : Around} {E : Value → Shared → Prop} {s : Shared} {Q : Option Sre.M → Shared → Prop} {m m' : Sre.M} {b : Bool} {k : Nat} (hk : k ≤ 2 ^ 64) (e : driveK k m = some m') (hb : ipOf m' = some b) (h : Q (if b then some m' else none) s) : wpAny M A (Builtin.Re.reRunToEnd m) Q E s := by
  unfold Builtin.Re.reRunToEnd
  refine wpAny_bind (wp_reDrive ?_ k (2 ^ 64) m hk e)
  refine wpAny_bind (wp_rules (fun i u Q' hq => ?_) ?_ _)
  · split
    · exact wpAny_bind (wpAny_rule (wpAny_pure hq))
    · exact wpAny_pure hq
  · unfold ipOf at hb
    cases ho : m'.outcome with
    | none => rw [ho] at hb; cases hb
    | some o =>
      rw [ho] at hb
      cases o with
      | matched => cases hb; exact wpAny_pure h
      | failed => cases hb; exact wpAny_pure h
      | stuck y => cases hb

namespace F
open PySem.F
theorem plainAttrs_re : PlainAttrs "re.Pattern" :=
  ⟨⟨"object.__getattribute__", by rw [typeLookup_type, builtinLookup_eq_fast]; kernel_rfl, by decide +kernel⟩, by rw [typeLookup_type, builtinLookup_eq_fast]; kernel_rfl⟩
theorem slot_search : Slot "re.Pattern" "search" "re.Pattern.search" :=
  .of (owner := "re.Pattern") (n := "search") (by rw [typeLookup_type, builtinLookup_eq_fast]; kernel_rfl) (by decide +kernel) (by decide +kernel) (by decide +kernel)
    (by first | exact .inl (by decide +kernel) | exact .inr (by decide +kernel)) (by rw [isSubtype_type]; kernel_rfl)
theorem type_search : typeOf (.builtin "re.Pattern.search") = pure (.type "method_descriptor") := by show builtinType _ = _; rw [builtinType_eq_fast]; kernel_rfl
theorem entry_search : entryFor table "re.Pattern.search" = some Builtin.«re.Pattern.search» := entryFor_of_tree (by kernel_rfl)
theorem args_search (a b : Value) : argsOk "re.Pattern.search" ⟨[a, b], []⟩ := by
  unfold argsOk; kernel_rfl
theorem noBool : typeLookup (.type "re.Match") "__bool__" = pure none := by rw [typeLookup_type, builtinLookup_eq_fast]; kernel_rfl
theorem noLen : typeLookup (.type "re.Match") "__len__" = pure none := by rw [typeLookup_type, builtinLookup_eq_fast]; kernel_rfl
end F

theorem re_named {a : Value} : Builtin.Re.reNamed "re.Pattern.search" "search" ["string", "pos", "endpos"] 1 [a] [] = pure [some a, none, none] := by rfl
theorem re_code : (ipVals.map Builtin.Re.reRawOf).map Int.toNat = ipCode := by decide +kernel
/-- the pattern and its code lie written -/
structure ReAt (h : Heap) : Prop where
  pat : ∃ c, h.get? 134 = some { cls := .type "re.Pattern", data := .fields #[.str "\\.\\d+$" c, .int 256 427, .int 0 0, .none, .none, .ref 133, .int 0 0] }
  code : h.get? 133 = some { cls := .type "tuple", data := .seq ipVals }
end Mine
end
section
open PySem PySem.Spec PySem.Calls PyProof.Rows PySem.W
namespace Mine
variable {p : Program} {w : World} {K : Frag} {n : Nat} {env : Env} {σ : Store} {N N' : Store → Prop} {R : D → Prop} {rest : List Stmt}

theorem search_call {A : Around} {s : Shared} {E : Value → Shared → Prop} {x : Str} {t : Tok} {b : Bool} {Q : Value → Shared → Prop} (hr : ReAt s.heap) (hx : ipOut x = some b) (hz : x.length ≤ 1000)
    (hQ : ∀ v s', Sh s s' → (b = false → v = .none) → (b = true → ∃ a, v = .ref a ∧ s'.TypeIs v "re.Match") → Q v s') : wpAny (model p w) A (call (.builtin "re.Pattern.search") [.ref 134, .str x t]) Q E s := by
  obtain ⟨⟨c, hp⟩, hc⟩ := hr
  refine wpAny_call_entry F.slot_search ⟨_, hp, rfl⟩ F.entry_search ?_ (F.args_search _ _)
  unfold Builtin.«re.Pattern.search»
  unfold ipOut at hx
  cases hm : ipRun x with
  | none => rw [hm] at hx; cases hx
  | some m' =>
    rw [hm] at hx
    refine wpAny_bind (m := Builtin.Re.reTarget _ _ _) ?_
    unfold Builtin.Re.reTarget
    show wpAny _ _ (Builtin.Re.reNamed "re.Pattern.search" "search" ["string", "pos", "endpos"] 1 [.str x t] [] >>= _) _ _ s
    rw [re_named]
    refine wpAny_bind (wpAny_pure ?_)
    refine wpAny_bind (wpAny_pure ?_)
    refine wpAny_bind (wpAny_pure ?_)
    refine wpAny_bind (wpAny_fieldsOf hp rfl ?_)
    refine wpAny_bind (m := Builtin.Re.reTextOf _) (wpAny_pure ?_)
    show wpAny _ _ (Builtin.Re.reNoCollectionInside (.str x t) 0 >>= _) _ _ s
    refine wpAny_bind (m := Builtin.Re.reNoCollectionInside _ _) (wpAny_pure ?_)
    show wpAny _ _ (Builtin.Re.reRawItems (.ref 133) >>= _) _ _ s
    refine wpAny_bind (m := Builtin.Re.reRawItems _) (wpAny_bind (wpAny_seqItems hc rfl (wpAny_pure ?_)))
    refine wpAny_pure ?_
    have e1 : (((some ipVals).getD #[]).map Builtin.Re.reRawOf).map (fun x => x.toNat) = ipCode := re_code
    have e2 : min (2 ^ 63 - 1 : Int).toNat x.cps.size = x.cps.size := by
      have : x.cps.size ≤ 1000 := hz
      have h2 : (2 ^ 63 - 1 : Int).toNat = 9223372036854775807 := by decide
      rw [h2]; omega
    have e3 : min (0 : Int).toNat x.cps.size = 0 := by simp
    dsimp only
    rw [e1, e2, e3]
    have e4 : Builtin.Re.reRawNat (#[Value.str "\\.\\d+$" c, .int 256 427, .int 0 0, .none, .none, .ref 133, .int 0 0].getD 2 .none) = 0 := rfl
    rw [e4]
    unfold Builtin.Re.reAnswer
    refine wpAny_bind (wp_reRun (m' := m') (b := b) (k := 400) (by decide) hm hx ?_)
    cases b with
    | false => exact wpAny_pure ⟨_, rfl, hQ _ s (.refl s) (fun _ => rfl) fun e => by cases e⟩
    | true =>
      show wpAny _ _ (Builtin.Re.reNewMatch (.ref 134) (.str x t) 0 0 x.cps.size m' >>= fun v => ret v) _ _ s
      unfold Builtin.Re.reNewMatch
      refine wpAny_bind (wpAny_bind (wpAny_newTuple ?_ (show (2 : Nat) ≤ sizeLine by decide)))
      refine wpAny_newObj_type (hd := by size_fits) ?_
      refine wpAny_pure ⟨_, rfl, hQ _ _ ((StO.allocSh (s := s)).trans (StO.allocSh)) (fun e => by cases e) fun _ => ⟨_, rfl, _, Heap.get?_push_size _ rfl, rfl⟩⟩

structure KR (K : Frag) : Prop where
  pat : ∃ c, K.lookup 134 = some { cls := .type "re.Pattern", data := .fields #[.str "\\.\\d+$" c, .int 256 427, .int 0 0, .none, .none, .ref 133, .int 0 0] }
  code : K.lookup 133 = some { cls := .type "tuple", data := .seq ipVals }
theorem KR.at (kr : KR K) {h : Heap} (X : K.In h) : ReAt h := ⟨let ⟨c, e⟩ := kr.pat; ⟨c, X _ _ e⟩, X _ _ kr.code⟩
theorem EvG.g {x : Str} {pos : Pos} {v : Value} (kx : KX K) (i : Nat) (h : gTab[i]? = some (x, v) := by rfl) (hk : env.kindOf x = some .globalImplicit := by rfl) (hd : (x == ("__debug__" : Str)) = false := by decide) : EvG p w K env (.Name x pos) v := .glob hk (kx.g _ (List.mem_of_getElem? h)) hd
theorem EvG.b {x : Str} {pos : Pos} {v : Value} (kx : KX K) (i : Nat) (h : bTab[i]? = some x := by rfl) (hb : bootBuiltins x = some v := by rfl) (hk : env.kindOf x = some .globalImplicit := by rfl) (hx : x ≠ "__name__" := by decide) (hd : (x == ("__debug__" : Str)) = false := by decide) : EvG p w K env (.Name x pos) v := .boot hk (kx.b _ (List.mem_of_getElem? h)) hb hx hd
theorem EvB.search {fp apos pos : Pos} {arg : Expr} {x : Str} {b : Bool} (kx : KX K) (kr : KR K) (ha : Ev p w K n env σ arg (.str x)) (hx : ipOut x = some b) (hz : x.length ≤ 1000) (hk : env.kindOf "IPV4_RE" = some .globalImplicit := by rfl)
    (hst : starEach [arg] env = (false, eval arg env) :: starEach [] env := by rfl) (hbase : attributeBase (.Name "IPV4_RE" fp) "search" env (eval (.Name "IPV4_RE" fp) env) = eval (.Name "IPV4_RE" fp) env := by rfl) (few : Few env [arg] pos := by exact ⟨rfl, rfl⟩) (hline : (apos.endLine == pos.line) = true := by rfl)
    (he : ∀ whole, isTrue (.Call (.Attribute (.Name "IPV4_RE" fp) "search" apos) [arg] [] pos) env whole = (do let v ← whole; standAt (Expr.Call (.Attribute (.Name "IPV4_RE" fp) "search" apos) [arg] [] pos).pos; holding [v] (truthy v)) := by intro _; rfl) :
    EvB p w K n env σ (.Call (.Attribute (.Name "IPV4_RE" fp) "search" apos) [arg] [] pos) b := fun O A s Q E whole ok st hw hQ => by
  refine wpAny_isTrue_value ?_ (he whole)
  subst hw
  refine wpAny_Call_method hbase few.few hline F.plainAttrs_re F.slot_search F.type_search (EvG.g (x := "IPV4_RE") kx 3 rfl hk (by decide) O A s σ _ E st ?_)
  obtain ⟨c, hp⟩ := (kr.at st.wd.kin).pat
  refine ⟨⟨_, hp, rfl⟩, fun a e => by cases e; exact ⟨_, hp, rfl⟩, ?_⟩
  refine callWith_of (P := K.In) (by rw [few.ns]; rfl) (PlainF.bi (p := p) (w := w)) (evArgs few.ns (spliced_more (ha O A s _ E ok st fun v s₁ y r => spliced_none ⟨(st.sh y).wd.kin, ?_⟩) hst))
  obtain ⟨t, rfl⟩ := r
  refine search_call (kr.at (st.sh y).wd.kin) hx hz fun v s₂ y₂ h0 h1 => ?_
  cases b with
  | false => rw [h0 rfl]; exact fun _ _ _ => hQ s₂ (y.trans y₂)
  | true =>
    obtain ⟨a, rfl, hT⟩ := h1 rfl
    unfold truthy
    refine wpAny_bind (wpAny_callSpecial?_none hT F.noBool ?_)
    refine wpAny_bind (wpAny_specialOf hT F.noLen ?_)
    exact wpAny_pure (hQ s₂ (y.trans y₂))
theorem EvLs.one {e : Expr} {d : D} (h : Ev p w K n env σ e d) (he : starEach [e] env = (false, eval e env) :: starEach [] env := by rfl) : EvLs p w K n env σ [e] [d] := .cons h .nil he

/-- liberal_is_HDN -/
theorem liberal_fn (kx : KX K) (kr : KR K) {x : Str} {b : Bool} (hx : ipOut x = some b) (hz : x.length ≤ 1000) : Fn p w K (n + 1) 141 [.str x] (.bool (!b)) := by
  refine Fn.intro (names := ["text"]) (kx.f (fd := fLiberal) 1) rfl rfl rfl rfl rfl rfl rfl ?_ rfl (by decide) (by decide) (by decide) (by decide) fun L => ?_
  · intro vs h; match vs, h with
    | [a], _ => rfl
  refine X.ite (N' := fun σ' => b = false ∧ σ' = [(("text" : Str), Ent.val (.str x))]) (EvB.search kx kr (Ev.name rfl) hx hz) (fun h => ?_) (fun h => X.nil ⟨h, rfl⟩) fun σ' h => ?_
  · refine X.ret .bool ?_
    rw [h]; rfl
  · obtain ⟨h, rfl⟩ := h
    refine X.ret .bool ?_
    rw [h]; rfl
theorem MethV.lower {x : Str} (hz : (Txt.lower x).length ≤ 1000) : MethV p w K n "str.lower" (.str x) [] (.str (Txt.lower x)) := by
  rintro O A s _ vs Q E ok st ⟨t, rfl⟩ r hQ
  simp only [RdL] at r; subst r
  exact SC.lower (by unfold Builtin.Str.tooLong; simp only [sizeLine]; simp; omega) (hQ _ _ (.tok s _) ⟨_, rfl⟩)
theorem MethV.upper {x : Str} (hz : (Txt.upper x).length ≤ 1000) : MethV p w K n "str.upper" (.str x) [] (.str (Txt.upper x)) := by
  rintro O A s _ vs Q E ok st ⟨t, rfl⟩ r hQ
  simp only [RdL] at r; subst r
  exact SC.upper (by unfold Builtin.Str.tooLong; simp only [sizeLine]; simp; omega) (hQ _ _ (.tok s _) ⟨_, rfl⟩)
theorem MethV.startswith {x y : Str} : MethV p w K n "str.startswith" (.str x) [.str y] (.bool (Txt.startswith x y)) := by
  rintro O A s _ vs Q E ok st ⟨t, rfl⟩ r hQ
  simp only [RdL, Rd] at r
  obtain ⟨_, _, rfl, ⟨u, rfl⟩, rfl⟩ := r
  exact SC.startswith (hQ _ _ (.refl s) rfl)
theorem MethV.endswith {x y : Str} : MethV p w K n "str.endswith" (.str x) [.str y] (.bool (Txt.endswith x y)) := by
  rintro O A s _ vs Q E ok st ⟨t, rfl⟩ r hQ
  simp only [RdL, Rd] at r
  obtain ⟨_, _, rfl, ⟨u, rfl⟩, rfl⟩ := r
  exact SC.endswith (hQ _ _ (.refl s) rfl)

/-- user_domain_match, of texts in small letters -/
noncomputable def udmL (a b : Str) (ia ib : Bool) : Bool := if ia || ib then a == b else if Txt.startswith b "." then Txt.endswith a b else a == b
theorem udm_fn (kx : KX K) (kr : KR K) {x y : Str} {ia ib : Bool} (hx : ipOut (Txt.lower x) = some ia) (hy : ipOut (Txt.lower y) = some ib) (hzx : (Txt.lower x).length ≤ 1000) (hzy : (Txt.lower y).length ≤ 1000) :
    Fn p w K (n + 2) 148 [.str x, .str y] (.bool (udmL (Txt.lower x) (Txt.lower y) ia ib)) := by
  refine Fn.intro (names := ["A", "B"]) (kx.f (fd := fMatch) 2) rfl rfl rfl rfl rfl rfl rfl ?_ rfl (by decide) (by decide) (by decide) (by decide) fun L => ?_
  · intro vs h; match vs, h with
    | [a, b], _ => rfl
  refine X.assign (Ev.methS F.slot_str_lower F.type_str_lower (Ev.name rfl) EvLs.nil (MethV.lower hzx)) (.inl rfl) (by decide) rfl ?_
  refine X.assign (Ev.methS F.slot_str_lower F.type_str_lower (Ev.name rfl) EvLs.nil (MethV.lower hzy)) (.inl rfl) (by decide) rfl ?_
  generalize Txt.lower x = a at *
  generalize Txt.lower y = b at *
  have eqB : ∀ {σ : Store} {pos pos' pos'' : Pos} (ha : σ.lookup ("A" : Str) = some (Ent.val (.str a))) (hb : σ.lookup ("B" : Str) = some (Ent.val (.str b))), EvB p w K (n + 1) (callEnvC fMatch L 148) σ (.Compare (.Name "A" pos) [.Eq] [.Name "B" pos'] pos'') (a == b) := fun ha hb =>
    EvB.cmp (Ev.v (Ev.name ha)) (Ev.v (Ev.name hb)) .eqS rfl
  refine X.ite (N' := fun σ' => (ia || ib) = false ∧ σ' = put (put [(("A" : Str), Ent.val (.str x)), (("B" : Str), Ent.val (.str y))] "A" (.val (.str a))) "B" (.val (.str b)))
    (EvB.not (EvB.ops (EvBs.andC (EvB.valB (Ev.callF (EvG.g kx 4) (kx.f (fd := fLiberal) 1).keep (EvLs.one (Ev.name rfl)) rfl (liberal_fn kx kr hx hzx)) fun _ => rfl)
      fun _ => EvBs.andC (EvB.valB (Ev.callF (EvG.g kx 4) (kx.f (fd := fLiberal) 1).keep (EvLs.one (Ev.name rfl)) rfl (liberal_fn kx kr hy hzy)) fun _ => rfl) fun _ => EvBs.andN))) (fun h => ?_) (fun h => X.nil ⟨by revert h; cases ia <;> cases ib <;> simp, rfl⟩) fun σ' h => ?_
  · have hi : (ia || ib) = true := by revert h; cases ia <;> cases ib <;> simp
    have hr : udmL a b ia ib = (a == b) := by rw [udmL, if_pos hi]
    rw [hr]
    refine X.ite (N' := fun σ' => (a == b) = false) (eqB rfl rfl) (fun h => X.ret .bool (by rw [h])) (fun h => X.nil h) fun σ' h => X.ret .bool (by rw [h])
  · obtain ⟨hi, rfl⟩ := h
    have hr : udmL a b ia ib = if Txt.startswith b "." then Txt.endswith a b else a == b := by rw [udmL, if_neg (by rw [hi]; decide)]
    rw [hr]
    refine X.assign (Ev.methS F.slot_str_startswith F.type_str_startswith (Ev.name rfl) (EvLs.one .str) .startswith) (.inl rfl) (by decide) rfl ?_
    generalize hd : Txt.startswith b "." = dot
    generalize hS : put (put (put [(("A" : Str), Ent.val (.str x)), (("B" : Str), Ent.val (.str y))] "A" (.val (.str a))) "B" (.val (.str b))) "initial_dot" (.val (.bool dot)) = S
    have hA : S.lookup ("A" : Str) = some (Ent.val (.str a)) := by rw [← hS]; rfl
    have hB : S.lookup ("B" : Str) = some (Ent.val (.str b)) := by rw [← hS]; rfl
    have hI : S.lookup ("initial_dot" : Str) = some (Ent.val (.bool dot)) := by rw [← hS]; rfl
    refine X.ite (N' := fun σ' => σ' = S ∧ (dot && (Txt.endswith a b && true)) = false) (EvB.ops (EvBs.andC (EvB.valB (Ev.name hI) fun _ => rfl) fun _ => EvBs.andC (EvB.valB (Ev.methS F.slot_str_endswith F.type_str_endswith (Ev.name hA) (EvLs.one (Ev.name hB)) .endswith) fun _ => rfl) fun _ => EvBs.andN))
      (fun h => X.ret .bool ?_) (fun h => X.nil ⟨rfl, h⟩) fun σ' h => ?_
    · revert h; cases dot <;> cases Txt.endswith a b <;> simp
    · obtain ⟨rfl, h1⟩ := h
      refine X.ite (N' := fun σ' => (!dot && ((a == b) && true)) = false) (EvB.ops (EvBs.andC (EvB.not (EvB.valB (Ev.name hI) fun _ => rfl)) fun _ => EvBs.andC (eqB hA hB) fun _ => EvBs.andN)) (fun h => X.ret .bool ?_) (fun h => X.nil h) fun σ' h => X.ret .bool ?_
      · revert h h1; cases dot <;> cases (a == b) <;> cases Txt.endswith a b <;> simp
      · revert h h1; cases dot <;> cases (a == b) <;> cases Txt.endswith a b <;> simp
end Mine
end
section
open PySem PySem.Spec PySem.Calls PyProof.Rows PySem.W
namespace Mine
variable {p : Program} {w : World} {K : Frag} {n : Nat} {env : Env} {σ : Store} {N N' : Store → Prop} {R : D → Prop} {rest : List Stmt}

noncomputable def apB : List UInt8 := [65, 66, 67, 68, 69, 70, 71, 72, 73, 74, 75, 76, 77, 78, 79, 80]
/-- imaplib's digits -/
noncomputable def apOf : Nat → Nat → List UInt8
  | 0, _ => []
  | k + 1, m => if m = 0 then [] else apOf k (m / 16) ++ [apB.getD (m % 16) 0]
theorem ap_pick : ∀ k : Fin 16, KBy.picked apB.toArray (some ((k : Nat) : Int)) (some (((k : Nat) : Int) + 1)) = #[apB.getD (k : Nat) 0] := by decide +kernel
theorem FunL.divmod {a b : Int} (hb : b ≠ 0) (hs : b.natAbs < 1073741824) : FunL p w K n (.builtin "divmod") [.int a, .int b] (.tup [.int (a.fdiv b), .int (a.fmod b)]) := by
  intro O A s vs Q E ok st r hQ
  simp only [RdL, Rd] at r
  obtain ⟨_, _, rfl, ⟨t, rfl⟩, _, _, rfl, ⟨u, rfl⟩, rfl⟩ := r
  refine divmod_int hb ?_ (.inl (PyProof.noPylong_small hs))
  refine hQ _ _ (.mk' (.push _ _)) ?_
  have := st.tup (ds := [.int (a.fdiv b), .int (a.fmod b)]) (vs := [.int (a.fdiv b) s.toks, .int (a.fmod b) (s.toks + 1)]) (.cons ⟨_, rfl⟩ (.one ⟨_, rfl⟩))
  exact this

theorem ap_step {k m : Nat} (hm : m ≠ 0) : apOf (k + 1) m = apOf k (m / 16) ++ [apB.getD (m % 16) 0] := by rw [apOf, if_neg hm]
theorem intAP_fn (kx : KX K) {i : Int} {k : Nat} (hk : i.natAbs < 16 ^ k) (hz : (apOf k i.natAbs).length ≤ 1000) : Fn p w K (n + 1) 155 [.int i] (.bytes (apOf k i.natAbs).toArray) := by
  refine Fn.intro (names := ["num"]) (kx.f (fd := fAP) 3) rfl rfl rfl rfl rfl rfl rfl ?_ rfl (by decide) (by decide) (by decide) (by decide) fun L => ?_
  · intro vs h; match vs, h with
    | [a], _ => rfl
  refine X.assign .bytes (.inl rfl) (by decide) rfl ?_
  refine X.assign .bytes (.inl rfl) (by decide) rfl ?_
  refine X.assign (Ev.call1 (EvG.b kx 2) .ty (Ev.v (Ev.call1 (EvG.b kx 3) .bi (Ev.v (Ev.name rfl)) .abs)) .int) (.inl rfl) (by decide) rfl ?_
  refine X.while (fun j σ' => ∃ (m : Nat) (v : List UInt8), σ'.lookup ("num" : Str) = some (.val (.int m)) ∧ σ'.lookup ("val" : Str) = some (.val (.bytes v.toArray)) ∧ σ'.lookup ("AP" : Str) = some (.val (.bytes apB.toArray)) ∧ m < 16 ^ j ∧ apOf j m ++ v = apOf k i.natAbs)
    (fun _ σ' => match σ'.lookup ("num" : Str) with | some (.val (.int m)) => m != 0 | _ => false) k ⟨i.natAbs, [], ?_, rfl, rfl, hk, by simp⟩ ?_ ?_ ?_
  · show some (Ent.val (.int (if i < 0 then -i else i))) = _
    have : (if i < 0 then -i else i) = (i.natAbs : Int) := by split <;> omega
    rw [this]
  · rintro j σ' ⟨m, v, h1, h2, h3, h4, h5⟩
    rw [h1]
    exact EvB.valI (Ev.name h1) fun _ => rfl
  · rintro j σ' ⟨m, v, h1, h2, h3, h4, h5⟩ hb
    rw [h1] at hb
    have hm : m ≠ 0 := by intro h; subst h; simp at hb
    obtain ⟨j, rfl⟩ : ∃ j', j = j' + 1 := by
      cases j with
      | zero => simp at h4; exact absurd h4 hm
      | succ j => exact ⟨j, rfl⟩
    rw [ap_step hm] at h5
    have e1 : ((m : Int)).fdiv 16 = ((m / 16 : Nat) : Int) := by rw [Int.fdiv_eq_ediv_of_nonneg _ (by decide)]; rfl
    have e2 : ((m : Int)).fmod 16 = ((m % 16 : Nat) : Int) := by rw [Int.fmod_eq_emod_of_nonneg _ (by decide)]; rfl
    refine X.asg (d := .tup [.int ((m / 16 : Nat) : Int), .int ((m % 16 : Nat) : Int)]) ?_ (Asg.two (.inl rfl) (by decide) (.inl rfl) (by decide)) rfl rfl rfl ?_
    · rw [← e1, ← e2]
      exact Ev.callL (EvG.b kx 4) .bi (.cons (Ev.name h1) (EvLs.one .int)) rfl (.divmod (by decide) (by decide))
    have hlt : m % 16 < 16 := Nat.mod_lt _ (by decide)
    have hv : v.length ≤ 1000 := by
      have := congrArg List.length h5
      simp only [List.length_append, List.length_cons, List.length_nil] at this
      omega
    refine X.assign (d := .bytes (#[apB.getD (m % 16) 0] ++ v.toArray)) ?_ (.inl rfl) (by decide) rfl (X.nil ⟨j, Nat.lt_succ_self _, m / 16, [apB.getD (m % 16) 0] ++ v, ?_, ?_, ?_, ?_, ?_⟩)
    · have hp := ap_pick ⟨m % 16, hlt⟩
      rw [← hp]
      have l1 : (put (put σ' "num" (.val (.int ((m / 16 : Nat) : Int)))) "mod" (.val (.int ((m % 16 : Nat) : Int)))).lookup ("mod" : Str) = some (.val (.int ((m % 16 : Nat) : Int))) := by rw [lookup_put, if_pos rfl]
      have l2 : (put (put σ' "num" (.val (.int ((m / 16 : Nat) : Int)))) "mod" (.val (.int ((m % 16 : Nat) : Int)))).lookup ("AP" : Str) = some (.val (.bytes apB.toArray)) := by rw [lookup_put, if_neg (by decide), lookup_put, if_neg (by decide)]; exact h3
      have l3 : (put (put σ' "num" (.val (.int ((m / 16 : Nat) : Int)))) "mod" (.val (.int ((m % 16 : Nat) : Int)))).lookup ("val" : Str) = some (.val (.bytes v.toArray)) := by rw [lookup_put, if_neg (by decide), lookup_put, if_neg (by decide)]; exact h2
      refine Ev.bin (Ev.v (Ev.cutB (Ev.name l2) (.some (Ev.name l1)) (.some (Ev.bin (Ev.v (Ev.name l1)) (Ev.v .int) .addI)) (by decide))) (Ev.v (Ev.name l3)) (.addB ?_)
      rw [hp]
      simp only [List.size_toArray]
      show 1 + v.length ≤ _
      omega
    · rw [lookup_put, if_neg (by decide), lookup_put, if_neg (by decide), lookup_put, if_pos rfl]
    · rw [lookup_put, if_pos rfl]; simp
    · rw [lookup_put, if_neg (by decide), lookup_put, if_neg (by decide), lookup_put, if_neg (by decide)]; exact h3
    · rw [Nat.pow_succ] at h4
      exact Nat.div_lt_of_lt_mul (by omega)
    · rw [← h5]; simp
  · rintro j σ' ⟨m, v, h1, h2, h3, h4, h5⟩ hb
    rw [h1] at hb
    have hm : m = 0 := by simpa using hb
    subst hm
    have : apOf j 0 = [] := by cases j <;> simp [apOf]
    rw [this, List.nil_append] at h5
    exact X.ret (Ev.name h2) (by rw [h5])
end Mine
end
section
open PySem PySem.Spec PySem.Calls PyProof.Rows PySem.W
namespace Mine
variable {p : Program} {w : World} {K : Frag} {n : Nat} {env : Env} {σ : Store} {N N' : Store → Prop} {R : D → Prop} {rest : List Stmt}

theorem lkE {x : Str} {e : Ent} : (put σ x e).lookup x = some e := by rw [lookup_put, if_pos rfl]
theorem lkN {x y : Str} {e : Ent} {r : Option Ent} (h : σ.lookup y = r) (hn : y ≠ x := by decide) : (put σ x e).lookup y = r := by rw [lookup_put, if_neg hn]; exact h
theorem Ev.to {e : Expr} {d d' : D} (hd : d = d') (h : Ev p w K n env σ e d) : Ev p w K n env σ e d' := hd ▸ h
theorem EvB.to {e : Expr} {b b' : Bool} (hd : b = b') (h : EvB p w K n env σ e b) : EvB p w K n env σ e b' := hd ▸ h
/-- return x, an own object -/
theorem X.retOwn {x : Str} {px pos : Pos} {e : Ent} {d : D} (h : σ.lookup x = some e) (hv : e.view = some d) (hr : R d) : X p w K n env σ (.Return (some (.Name x px)) pos :: rest) N R := by
  refine X.weak (σ' := [(x, .val d)]) (by simp) (fun y f hy => ?_) (X.ret (Ev.name (by simp)) hr)
  rw [List.lookup_cons] at hy
  by_cases q : y = x
  · subst q; simp at hy; exact .inr ⟨e, d, h, hv, hy.symm⟩
  · have : (y == x) = false := by simpa using q
    rw [this] at hy; cases hy
/-- an own object is frozen in its place -/
theorem X.freeze {b : List Stmt} {x : Str} {e : Ent} {d : D} (h : σ.lookup x = some e) (hv : e.view = some d) (hkd : (σ.map (·.1)).Nodup) (hx : X p w K n env (put σ x (.val d)) b N R) : X p w K n env σ b N R := by
  refine X.weak (put_nodup hkd) (fun y f hy => ?_) hx
  rw [lookup_put] at hy
  by_cases q : y = x
  · rw [if_pos q] at hy; cases hy; subst q; exact .inr ⟨e, d, h, hv, rfl⟩
  · rw [if_neg q] at hy; exact .inl hy
/-- the store's names are apart: known of any state -/
theorem X.kd {b : List Stmt} (h : (σ.map (·.1)).Nodup → X p w K n env σ b N R) : X p w K n env σ b N R := X.mk fun B O₀ A s Q E ok st hN hR => (h st.kd).run B O₀ A s Q E ok st hN hR

theorem cnOk {fd : FuncData} {L f : Addr} (h : ((cellsFrom 0 fd.scope.names []).map (·.1)).Nodup) : ((callEnvC fd L f).cells.map (·.1)).Nodup := by
  show ((cellsFrom _ fd.scope.names []).map (·.1)).Nodup
  rw [cells_names fd.scope.names _ 0 [] [] rfl]; exact h
/-! the ties -/
noncomputable def ties : List Str := ["ab", "ac", "bc", "ad", "bd", "cd"]
noncomputable def tieOut (number : Int) (k : Nat) : Bool := ((number.fdiv (2 ^ k)).fmod 2 == 0) || ((number.fdiv (2 ^ (k + 6))).fmod 2 == 0)
noncomputable def pickL : Nat → List Str → Int → List Str
  | 0, _, _ => []
  | k + 1, l, o => l.getD (o.fmod ((k : Int) + 1)).toNat "" :: pickL k (l.eraseIdx (o.fmod ((k : Int) + 1)).toNat) (o.fdiv ((k : Int) + 1))
noncomputable def restOf (number : Int) : List Str := ((List.range 6).filter fun k => tieOut number k).map fun k => ties.getD k ""
noncomputable def rowOf (number order : Int) : List Str := pickL (restOf number).length (restOf number) order

theorem tie_ds (i : Nat) (d : D) (h : (ties.map D.str)[i]? = some d) : i < 6 ∧ d = .str (ties.getD i "") := by
  rw [List.getElem?_map] at h
  have hi : i < 6 := by
    rcases Nat.lt_or_ge i 6 with q | q
    · exact q
    · rw [List.getElem?_eq_none (by simpa [ties] using q)] at h; cases h
  refine ⟨hi, ?_⟩
  have : ties[i]? = some (ties.getD i "") := by
    rw [List.getD_eq_getElem?_getD]
    cases e : ties[i]? with
    | some v => rfl
    | none => rw [List.getElem?_eq_none_iff] at e; simp [ties] at e; omega
  rw [this] at h
  exact (Option.some.inj h).symm
theorem pow_two (k : Nat) (hk : k ≤ 30) : BinOk p w K n .Pow (.int 2) (.int (k : Nat)) (.int (2 ^ k)) := by
  have h := BinOk.powI (p := p) (w := w) (K := K) (n := n) (a := 2) (b := (k : Int)) (Int.natCast_nonneg k) (by
    have : (Builtin.Int.intBits 2 : Int) = 2 := by decide +kernel
    rw [this]; omega)
  simpa using h
theorem two_pow_ne (k : Nat) : (2 ^ k : Int) ≠ 0 := Int.pow_ne_zero (by decide)
theorem two_pow_small {k : Nat} (hk : k ≤ 29) : (2 ^ k : Int).natAbs < 1073741824 := by
  rw [Int.natAbs_pow]
  have : (2 : Int).natAbs ^ k ≤ 2 ^ 29 := Nat.pow_le_pow_right (by decide) hk
  omega

theorem rangeDs_at {a c : Int} {m i : Nat} {d : D} (h : (rangeDs a c m)[i]? = some d) : i < m ∧ d = .int (a + (i : Nat) * c) := by
  simp only [rangeDs, List.getElem?_map] at h
  by_cases hi : i < m
  · rw [List.getElem?_range hi] at h; exact ⟨hi, (Option.some.inj h).symm⟩
  · rw [List.getElem?_eq_none (by simp; omega)] at h; cases h
theorem fmod_lt {o : Int} {k : Nat} : (o.fmod ((k : Int) + 1)).toNat < k + 1 ∧ o.fmod ((k : Int) + 1) = ((o.fmod ((k : Int) + 1)).toNat : Nat) := by
  have h1 := Int.fmod_nonneg_of_pos o (b := (k : Int) + 1) (by omega)
  have h2 := Int.fmod_lt_of_pos o (b := (k : Int) + 1) (by omega)
  omega
theorem range_down : ∀ k : Fin 7, Builtin.Range.rangeSize (k : Nat) 0 (-1) = (k : Nat) ∧ Builtin.Range.small (k : Nat) 0 (-1) = true := by decide +kernel
theorem row_fn (kx : KX K) {number order : Int} : Fn p w K (n + 1) 162 [.int number, .int order] (.list ((rowOf number order).map .str)) := by
  refine Fn.intro (names := ["number", "order"]) (kx.f (fd := fRow) 4) rfl rfl rfl rfl rfl rfl rfl ?_ rfl (by decide) (by decide) (by decide) (by decide) fun L => ?_
  · intro vs h; match vs, h with
    | [a, b], _ => rfl
  refine Stp.newL (ds := []) EvLs.nil (.inl rfl) (by decide) (by decide) rfl fun a => ?_
  refine X.forEnum (ds := ties.map .str) (fun i σ' => ∃ a, σ'.lookup ("rest" : Str) = some (.lst a ((((List.range i).filter fun k => tieOut number k).map fun k => ties.getD k "").map .str)) ∧ σ'.lookup ("number" : Str) = some (.val (.int number)) ∧ σ'.lookup ("order" : Str) = some (.val (.int order)))
    (EvN.list (EvG.b kx 5) (Ev.list (.cons .str (.cons .str (.cons .str (.cons .str (.cons .str (EvLs.one .str)))))) (by decide))) (cnOk (by decide)) (.inl rfl) (by decide) (.inl rfl) (by decide) ⟨a, rfl, rfl, rfl⟩ ?_ ?_
  · rintro i d σ' hd ⟨a, h1, h2, h3⟩
    obtain ⟨hi, rfl⟩ := tie_ds i d hd
    refine X.ite (b := tieOut number i) (N' := fun σ'' => ∃ a, σ''.lookup ("rest" : Str) = some (.lst a ((((List.range (i + 1)).filter fun k => tieOut number k).map fun k => ties.getD k "").map .str)) ∧ σ''.lookup ("number" : Str) = some (.val (.int number)) ∧ σ''.lookup ("order" : Str) = some (.val (.int order))) ?_ (fun hb => ?_) (fun hb => ?_) fun σ'' h => X.nil h
    · have e1 : ∀ j : Nat, j ≤ 29 → ∀ {S : Store} {e : Expr} {pn p1 p2 p3 p4 p5 p6 p7 : Pos} {q1 q2 q3 : Nat}, Ev p w K n (callEnvC fRow L 162) S e (.int j) → S.lookup ("number" : Str) = some (.val (.int number)) →
          EvB p w K n (callEnvC fRow L 162) S (.Compare (.BinOp (.BinOp (.Name "number" pn) .FloorDiv (.BinOp (.Constant (.int 2) q1 p1) .Pow e p2) p3) .Mod (.Constant (.int 2) q2 p4) p5) [.Eq] [.Constant (.int 0) q3 p6] p7) (((number.fdiv (2 ^ j)).fmod 2) == 0) := fun j hj {S e pn p1 p2 p3 p4 p5 p6 p7 q1 q2 q3} he hn =>
        EvB.cmp (Ev.v (Ev.bin (Ev.v (Ev.bin (Ev.v (Ev.name hn)) (Ev.v (Ev.bin (Ev.v .int) (Ev.v he) (pow_two j (by omega)))) (.fdivI (two_pow_ne j) (two_pow_small hj)))) (Ev.v .int) (.modI (by decide)))) (Ev.v .int) .eqI rfl
      have hb : tieOut number i = ((((number.fdiv (2 ^ i)).fmod 2) == 0) || ((((number.fdiv (2 ^ (i + 6))).fmod 2) == 0) || false)) := by rw [Bool.or_false]; rfl
      rw [hb]
      refine EvB.ops (EvBs.orC (e1 i (by omega) (Ev.name (lkN lkE)) (lkN (lkN h2))) fun _ => EvBs.orC (e1 (i + 6) (by omega) ?_ (lkN (lkN h2))) fun _ => EvBs.orN)
      exact Ev.bin (Ev.v (Ev.name (lkN lkE))) (Ev.v .int) (BinOk.addI (a := (i : Int)) (b := 6))
    · refine X.step (Stp.append (lkN (lkN h1)) (Ev.name lkE) ?_) (X.nil ⟨a, ?_, lkN (lkN (lkN h2)), lkN (lkN (lkN h3))⟩)
      · have : ((((List.range i).filter fun k => tieOut number k).map fun k => ties.getD k "").map D.str).length ≤ i := by
          rw [List.length_map, List.length_map]
          exact Nat.le_trans (List.length_filter_le _ _) (by rw [List.length_range]; exact Nat.le_refl _)
        simp only [sizeLine]; omega
      · rw [lkE, List.range_succ, List.filter_append, List.map_append, List.map_append]
        simp [hb]
    · refine X.nil ⟨a, ?_, lkN (lkN h2), lkN (lkN h3)⟩
      rw [lkN (lkN h1), List.range_succ, List.filter_append, List.map_append, List.map_append]
      simp [hb]
  · rintro σ' ⟨a, h1, h2, h3⟩
    have hR : (((List.range (ties.map D.str).length).filter fun k => tieOut number k).map fun k => ties.getD k "") = restOf number := rfl
    rw [hR] at h1
    refine Stp.newL (ds := []) EvLs.nil (.inl rfl) (by decide) (by decide) rfl fun c => ?_
    have hlen : (restOf number).length ≤ 6 := by
      unfold restOf
      rw [List.length_map]
      exact Nat.le_trans (List.length_filter_le _ _) (by rw [List.length_range]; exact Nat.le_refl _)
    generalize hm : (restOf number).length = m at hlen
    have hz : ∀ {l : List Str}, l.length ≤ 6 → (l.map D.str).length ≤ sizeLine := fun h => by rw [List.length_map]; exact Nat.le_trans h (by decide)
    refine X.for (tp := false) (ds := rangeDs m (-1) m) (f := fun d σ => put σ "size" (.val d)) (fun i σ' => ∃ a c l r o, σ'.lookup ("rest" : Str) = some (.lst a (l.map .str)) ∧ σ'.lookup ("row" : Str) = some (.lst c (r.map .str)) ∧ σ'.lookup ("order" : Str) = some (.val (.int o)) ∧
      l.length = m - i ∧ r.length = i ∧ r ++ pickL (m - i) l o = rowOf number order) (EvW.range (a := m) (b := 0) (c := -1) (EvR.three (EvG.b kx 6) (.cons ?_ (.cons .int (EvLs.one (Ev.neg .int)))) (by decide) (by decide) rfl) (range_down ⟨m, by omega⟩).1 (range_down ⟨m, by omega⟩).2)
      (cnOk (by decide)) (fun d _ => Asg.name (.inl rfl) (by decide)) .name ?_ ?_ ?_
    · have := FunV.lenL (p := p) (w := w) (K := K) (n := n) (ds := (restOf number).map .str) (hz (by omega))
      rw [List.length_map, hm] at this
      exact Ev.call1 (EvG.b kx 1) .bi (EvV.name (lkN h1) rfl) this
    · exact ⟨a, c, restOf number, [], order, lkN h1, lkE, lkN h3, hm, rfl, by rw [List.nil_append, Nat.sub_zero, rowOf, hm]⟩
    · rintro i d σ2 hd ⟨a, c, l, r, o, g1, g2, g3, g4, g5, g6⟩
      obtain ⟨hi, rfl⟩ := rangeDs_at hd
      obtain ⟨k, hk⟩ : ∃ k, m - i = k + 1 := ⟨m - i - 1, by omega⟩
      have es : ((m : Int) + (i : Nat) * (-1)) = (k : Int) + 1 := by omega
      rw [hk] at g4 g6
      have hj := fmod_lt (o := o) (k := k)
      generalize hjj : (o.fmod ((k : Int) + 1)).toNat = j at hj
      have hl6 : l.length ≤ 6 := by omega
      have hr6 : r.length ≤ 6 := by omega
      refine X.step (Stp.appendPop (k := j) (lkN g1) (lkN g2) (by decide) (d := .str (l.getD j "")) ?_ ?_ (hz hl6) (hz hr6)) ?_
      · exact Ev.to (d := .int (o.fmod ((m : Int) + (i : Nat) * (-1)))) (by rw [es, hj.2]) (Ev.bin (Ev.v (Ev.name (lkN g3))) (Ev.v (Ev.name lkE)) (BinOk.modI (a := o) (b := (m : Int) + (i : Nat) * (-1)) (by omega)))
      · rw [List.getElem?_map, List.getD_eq_getElem?_getD]
        have : l[j]? = some l[j] := List.getElem?_eq_getElem (by omega)
        rw [this]; rfl
      refine X.assign (d := .int (o.fdiv ((k : Int) + 1))) ?_ (.inl rfl) (by decide) rfl (X.nil ⟨a, c, l.eraseIdx j, r ++ [l.getD j ""], o.fdiv ((k : Int) + 1), ?_, ?_, lkE, ?_, ?_, ?_⟩)
      · rw [← es]
        exact Ev.bin (Ev.v (Ev.name (lkN (lkN (lkN g3))))) (Ev.v (Ev.name (lkN (lkN lkE)))) (.fdivI (by omega) (by omega))
      · rw [lkN (lkN lkE)]
        simp [List.eraseIdx_eq_take_drop_succ, List.map_take, List.map_drop]
      · rw [lkN lkE, List.map_append]; rfl
      · rw [List.length_eraseIdx_of_lt (by omega)]; omega
      · rw [List.length_append]; simp; omega
      · have : m - (i + 1) = k := by omega
        rw [this, ← g6, pickL, hjj]
        simp
    · rintro σ2 ⟨a, c, l, r, o, g1, g2, g3, g4, g5, g6⟩
      have hL : (rangeDs (m : Int) (-1) m).length = m := by simp [rangeDs]
      rw [hL, Nat.sub_self, pickL, List.append_nil] at g6
      exact X.retOwn g2 rfl (by rw [g6])
end Mine
end
section
open PySem PySem.Spec PySem.Calls PyProof.Rows PySem.W
namespace Mine
variable {p : Program} {w : World} {K : Frag} {n : Nat} {env : Env} {σ : Store} {N N' : Store → Prop} {R : D → Prop} {rest : List Stmt}

theorem before_idx {x : Str} : ∀ {xs : List Str} {m : Nat} (hm : m < xs.length), m < xs.idxOf x → xs[m] ≠ x
  | [], m, hm, _ => absurd hm (by simp)
  | y :: ys, m, hm, h => by
    rw [List.idxOf_cons] at h
    by_cases q : y = x
    · subst q; simp at h
    · have : (y == x) = false := by simpa using q
      rw [this] at h
      cases m with
      | zero => exact q
      | succ m => exact before_idx (xs := ys) (by simpa using hm) (by simpa using h)
theorem zip_get {xs : List Str} {ts : List Tok} (h : ts.length = xs.length) (j : Nat) (hj : j < (List.zipWith (fun x t => Value.str x t) xs ts).length) : ∃ t, (List.zipWith (fun x t => Value.str x t) xs ts)[j] = .str (xs[j]'(by rw [List.length_zipWith] at hj; omega)) t := by
  rw [List.getElem_zipWith]; exact ⟨_, rfl⟩
theorem MethV.index {xs : List Str} {x : Str} (hx : x ∈ xs) (hz : xs.length ≤ 1000) : MethV p w K n "list.index" (.list (xs.map .str)) [.str x] (.int (xs.idxOf x)) := by
  rintro O A s _ vs Q E ok st ⟨a, o, us, rfl, ho, ⟨k, rfl⟩, r⟩ rv hQ
  simp only [RdL, Rd] at rv
  obtain ⟨_, _, rfl, ⟨t, rfl⟩, rfl⟩ := rv
  obtain ⟨ts, hlen, rfl⟩ := r.strs
  have hj : xs.idxOf x < xs.length := List.idxOf_lt_length_iff.mpr hx
  have hL : (List.zipWith (fun x t => Value.str x t) xs ts).length = xs.length := by rw [List.length_zipWith]; omega
  refine call_meets F.slot_list_index ⟨_, ho, rfl⟩ F.entry_list_index (F.args_list_index_2 _ _)
    (PySem.SeqAt.list_indexAt a (List.zipWith (fun x t => Value.str x t) xs ts).toArray k none #[] (.str x t) (fun y => y.isStr x) (xs.idxOf x) (by rw [List.size_toArray, hL]; exact hj) (by omega) ?_ ?_) ⟨ho, fun y hy => eqAt_strs (mem_zip (by simpa using hy)), hQ _ _ (.tok s _) ⟨_, rfl⟩⟩
  · obtain ⟨t', e⟩ := zip_get hlen (xs.idxOf x) (by rw [hL]; exact hj)
    show Value.isStr _ x = true
    simp only [List.getElem_toArray]
    rw [e, List.getElem_idxOf hj]
    simp [Value.isStr]
  · intro m hm hlt
    obtain ⟨t', e⟩ := zip_get hlen m (by simpa using hm)
    show Value.isStr _ x = false
    simp only [List.getElem_toArray]
    rw [e]
    have := before_idx (x := x) (xs := xs) (by rw [← hL]; simpa using hm) hlt
    simp [Value.isStr, this]

/-! ties and groups -/
noncomputable def sg (t : Str) (i : Nat) : Str := ⟨#[t.cps.getD i 0]⟩
theorem tie_sign : ∀ t ∈ ties, (seqIndex? 0 t.length).bind (t.cps[·]?) = some (t.cps.getD 0 0) ∧ (seqIndex? 1 t.length).bind (t.cps[·]?) = some (t.cps.getD 1 0) := by decide +kernel
theorem Ev.sign0 {e i : Expr} {pos : Pos} {t : Str} (ht : t ∈ ties) (he : Ev p w K n env σ e (.str t)) (hi : Ev p w K n env σ i (.int 0)) (hs : ∀ o j, subscripted i false o j = operate [o, j] (getItem o j)) : Ev p w K n env σ (.Subscript e i pos) (.str (sg t 0)) :=
  Ev.sub (Ev.v he) (Ev.v hi) (IdxOk.str (by decide) (tie_sign t ht).1) hs
theorem Ev.sign1 {e i : Expr} {pos : Pos} {t : Str} (ht : t ∈ ties) (he : Ev p w K n env σ e (.str t)) (hi : Ev p w K n env σ i (.int 1)) (hs : ∀ o j, subscripted i false o j = operate [o, j] (getItem o j)) : Ev p w K n env σ (.Subscript e i pos) (.str (sg t 1)) :=
  Ev.sub (Ev.v he) (Ev.v hi) (IdxOk.str (by decide) (tie_sign t ht).2) hs
noncomputable def groups : List Str := ["b", "c", "d", "bc", "bd", "cd", "bcd"]
noncomputable def crossG (g t : Str) : Bool := strIn (sg t 0) g != strIn (sg t 1) g
noncomputable def waysG (row : List Str) (g : Str) : List Str := row.filter (crossG g)
noncomputable def cutG (row : List Str) (g : Str) : Nat := ((waysG row g).map fun t => 2 ^ row.idxOf t).sum
noncomputable def sgs (g : Str) : List Str := g.cps.toList.map fun c => ⟨#[c]⟩
noncomputable def ptsG (row : List Str) (g : Str) : List (Str × Nat) := (sgs g).map fun q => (q, ((waysG row g).filter fun t => strIn q t).length)
/-- a group's exits, as data -/
noncomputable def exitD (e : Nat × List (Str × Nat)) : D := .tup [.int e.1, .list (e.2.map fun q => .tup [.str q.1, .int q.2])]
noncomputable def exitsOf (row : List Str) : List (Nat × List (Str × Nat)) := groups.map fun g => (cutG row g, ptsG row g)

theorem filter_lookup {f : Str → Bool} {x : Str} (hf : f x = true) : ∀ {σ : Store}, (σ.filter fun z => f z.1).lookup x = σ.lookup x
  | [] => rfl
  | (z, e) :: σ => by
    rw [List.filter_cons, List.lookup_cons]
    by_cases hx : x = z
    · subst hx; rw [if_pos hf, List.lookup_cons]; simp
    · have q : (x == z) = false := by simpa using hx
      rw [q]
      split
      · rw [List.lookup_cons, q]; exact filter_lookup hf
      · exact filter_lookup hf
/-- a captured name in a comprehension -/
theorem lkC {caps : List Str} {bs : List (Str × D)} {x : Str} {e : Ent} (h : σ.lookup x = some e) (hb : bs.lookup x = none := by rfl) (hc : caps.contains x = true := by decide) : (ceS σ caps bs).lookup x = some e := by
  rw [ceS, lookup_append, lookup_valS, hb]
  rw [filter_lookup (f := fun z => caps.contains z) hc, h]; rfl
/-- a target's name in a comprehension -/
theorem lkB {caps : List Str} {bs : List (Str × D)} {x : Str} {d : D} (h : bs.lookup x = some d := by rfl) : (ceS σ caps bs).lookup x = some (.val d) := by
  rw [ceS, lookup_append, lookup_valS, h]; rfl
theorem filter_tt {α : Type} (l : List α) : l.filter (fun _ => true) = l := List.filter_eq_self.mpr fun _ _ => rfl
theorem groups_ascii : ∀ g ∈ groups, g.cps.all (· < 128) = true := by decide +kernel
theorem sgs_signs (g : Str) : signs g = (sgs g).map .str := by simp [signs, sgs]
theorem sum_cast (l : List Nat) : (l.map fun (k : Nat) => (k : Int)).sum = ((l.sum : Nat) : Int) := by
  induction l with
  | nil => rfl
  | cons a l ih => simp [ih]

theorem exits_fn (kx : KX K) {row : List Str} (hrow : ∀ t ∈ row, t ∈ ties) (hlen : row.length ≤ 6) : Fn p w K (n + 1) 167 [.list (row.map .str)] (.list ((exitsOf row).map exitD)) := by
  refine Fn.intro (names := ["row"]) (kx.f (fd := fExits) 5) rfl rfl rfl rfl rfl rfl rfl ?_ rfl (by decide) (by decide) (by decide) (by decide) fun L => ?_
  · intro vs h; match vs, h with
    | [a], _ => rfl
  have hz6 : ∀ {m : Nat}, m ≤ 1000 → m ≤ sizeLine := fun h => Nat.le_trans h (by decide)
  refine Stp.newL (ds := []) EvLs.nil (.inl rfl) (by decide) (by decide) rfl fun a => ?_
  refine X.for (tp := false) (ds := groups.map .str) (f := fun d σ => put σ "group" (.val d)) (fun i σ' => ∃ a, σ'.lookup ("exits" : Str) = some (.lst a (((groups.take i).map fun g => (cutG row g, ptsG row g)).map exitD)) ∧ σ'.lookup ("row" : Str) = some (.val (.list (row.map .str))))
    (EvW.list (Ev.list (.cons .str (.cons .str (.cons .str (.cons .str (.cons .str (.cons .str (EvLs.one .str))))))) (by decide))) (cnOk (by decide)) (fun d _ => Asg.name (.inr rfl) (by decide)) .name ⟨a, rfl, rfl⟩ ?_ ?_
  · rintro i d σ' hd ⟨a, h1, h2⟩
    rw [List.getElem?_map] at hd
    cases hg : groups[i]? with
    | none => rw [hg] at hd; cases hd
    | some g =>
    rw [hg] at hd
    obtain rfl : d = .str g := (Option.some.inj hd).symm
    have hgm : g ∈ groups := List.mem_of_getElem? hg
    refine X.assign (d := .list ((waysG row g).map .str)) ?_ (.inr rfl) (by decide) rfl ?_
    · refine Ev.to (d := .list ((row.filter (crossG g)).map .str)) rfl (Ev.comp (xs := row) (enc := .str) (cl := [("group", L + 2)]) (caps := ["group"]) (keep := crossG g) (g := .str) (binds := fun t => [("tie", .str t)]) (tp := false)
        { kind := rfl, names := by decide, clos := rfl, cap := ?_, asg := ?_, tests := ?_, elt := ?_, size := hz6 (by omega) } (EvW.list (Ev.name (lkN h2))) .name)
      · intro C x hx
        obtain rfl : x = ("group" : Str) := by simpa using hx
        exact ⟨L + 2, .inl rfl, rfl, .inl rfl, rfl⟩
      · intro C t ht
        exact AsgC.name rfl rfl (by decide)
      · intro C t ht
        have hl : (ceS (put σ' "group" (.val (.str g))) ["group"] [("tie", .str t)]).lookup ("group" : Str) = some (.val (.str g)) := lkC lkE rfl (by decide)
        exact EvT.one (EvB.cmp (Ev.v (Ev.cmp (Ev.v (Ev.sign0 (hrow t ht) (Ev.name lkB) .int fun _ _ => rfl)) (Ev.v (Ev.name hl)) .inS rfl)) (Ev.v (Ev.cmp (Ev.v (Ev.sign1 (hrow t ht) (Ev.name lkB) .int fun _ _ => rfl)) (Ev.v (Ev.name hl)) .inS rfl)) .neB rfl)
      · intro C t ht _
        exact Ev.name rfl
    have hwl : (waysG row g).length ≤ 6 := Nat.le_trans (List.length_filter_le _ _) hlen
    refine X.assign (d := .int (cutG row g)) ?_ (.inl rfl) (by decide) rfl ?_
    · have hS := FunV.sumL (p := p) (w := w) (K := K) (n := n) (ns := (waysG row g).map fun t => ((2 ^ row.idxOf t : Nat) : Int))
      have e1 : ((waysG row g).map fun t => ((2 ^ row.idxOf t : Nat) : Int)).sum = (cutG row g : Int) := by
        rw [cutG, ← sum_cast, List.map_map]; rfl
      rw [e1] at hS
      refine Ev.call1 (EvG.b kx 8) .bi (Ev.v (Ev.to ?_ (Ev.comp (xs := waysG row g) (enc := .str) (cl := [("row", L + 1)]) (caps := ["row"]) (keep := fun _ => true) (g := fun t => .int (2 ^ row.idxOf t : Nat)) (binds := fun t => [("tie", .str t)]) (tp := false)
        { kind := rfl, names := by decide, clos := rfl, cap := ?_, asg := ?_, tests := ?_, elt := ?_, size := hz6 (by omega) } (EvW.list (Ev.name lkE)) .name))) hS
      · rw [filter_tt, List.map_map]; rfl
      · intro C x hx
        obtain rfl : x = ("row" : Str) := by simpa using hx
        exact ⟨L + 1, .inl rfl, rfl, .inl rfl, rfl⟩
      · intro C t ht
        exact AsgC.name rfl rfl (by decide)
      · intro C t ht
        exact EvT.nil
      · intro C t ht _
        have hl : (ceS (put (put σ' "group" (.val (.str g))) "ways" (.val (.list ((waysG row g).map .str)))) ["row"] [("tie", .str t)]).lookup ("row" : Str) = some (.val (.list (row.map .str))) := lkC (lkN (lkN h2)) rfl (by decide)
        have hm : t ∈ row := (List.mem_filter.mp ht).1
        refine Ev.bin (Ev.v .int) (Ev.v (Ev.methL F.slot_list_index F.type_list_index (Ev.v (Ev.name hl)) (EvLs.one (Ev.name lkB)) (.index hm (by omega)))) ?_
        have h1 := pow_two (p := p) (w := w) (K := K) (n := n) (row.idxOf t) (by have := List.idxOf_lt_length_iff.mpr hm; omega)
        have e2 : ((2 ^ row.idxOf t : Nat) : Int) = 2 ^ row.idxOf t := by push_cast; rfl
        rw [e2]; exact h1
    refine X.step (Stp.append (d := exitD (cutG row g, ptsG row g)) (lkN (lkN (lkN h1))) (Ev.tup (ds := [.int (cutG row g), .list ((ptsG row g).map fun q => .tup [.str q.1, .int q.2])]) (.cons (Ev.name lkE) (EvLs.one ?_)) (show (2 : Nat) ≤ sizeLine by decide)) ?_) (X.nil ⟨a, ?_, lkN (lkN (lkN (lkN h2)))⟩)
    · refine Ev.to ?_ (Ev.comp (xs := sgs g) (enc := .str) (cl := [("ways", L + 3)]) (caps := ["ways"]) (keep := fun _ => true) (g := fun q => .tup [.str q, .int ((waysG row g).filter fun t => strIn q t).length]) (binds := fun q => [("point", .str q)]) (tp := false)
        { kind := rfl, names := by decide, clos := rfl, cap := ?_, asg := ?_, tests := fun C q hq => EvT.nil, elt := ?_, size := hz6 ?_ } (sgs_signs g ▸ EvW.str (Ev.name (lkN (lkN lkE))) (groups_ascii g hgm)) .name)
      · rw [filter_tt, ptsG, List.map_map]; rfl
      · intro C x hx
        obtain rfl : x = ("ways" : Str) := by simpa using hx
        exact ⟨L + 3, .inl rfl, rfl, .inl rfl, rfl⟩
      · intro C q hq
        exact AsgC.cell (c := C + 1) rfl rfl (by decide) rfl rfl
      · intro C q hq _
        refine Ev.tup (.cons (Ev.name lkB) (EvLs.one ?_)) (show (2 : Nat) ≤ sizeLine by decide)
        have hlw : ∀ {bs : List (Str × D)}, bs.lookup ("ways" : Str) = none → (ceS (put (put (put σ' "group" (.val (.str g))) "ways" (.val (.list ((waysG row g).map .str)))) "cut" (.val (.int (cutG row g)))) ["ways"] bs).lookup ("ways" : Str) = some (.val (.list ((waysG row g).map .str))) := fun h => lkC (lkN lkE) h (by decide)
        have hL := FunV.lenL (p := p) (w := w) (K := K) (n := n) (ds := ((waysG row g).filter fun t => strIn q t).map .str) (by
          rw [List.length_map]
          have := List.length_filter_le (fun t => strIn q t) (waysG row g)
          exact hz6 (by omega))
        rw [List.length_map] at hL
        refine Ev.call1 (EvG.b kx 1) .bi (Ev.v (Ev.comp (xs := waysG row g) (enc := .str) (cl := [("point", C + 1)]) (caps := ["point"]) (keep := fun t => strIn q t) (g := .str) (binds := fun t => [("tie", .str t)]) (tp := false)
          { kind := rfl, names := by decide, clos := rfl, cap := ?_, asg := fun C' t ht => AsgC.name rfl rfl (by decide), tests := ?_, elt := fun C' t ht _ => Ev.name lkB, size := hz6 (by omega) } (EvW.list (Ev.name (hlw rfl))) .name)) hL
        · intro C' x hx
          obtain rfl : x = ("point" : Str) := by simpa using hx
          exact ⟨C + 1, .inl rfl, rfl, .inl rfl, rfl⟩
        · intro C' t ht
          refine EvT.one (EvB.cmp (Ev.v (Ev.name (lkC ?_ rfl (by decide)))) (Ev.v (Ev.name lkB)) .inS rfl)
          exact lkB
      · have : ∀ g ∈ groups, (sgs g).length ≤ 1000 := by decide +kernel
        exact this g hgm
    · rw [List.length_map, List.length_map, List.length_take]
      have : groups.length = 7 := rfl
      exact hz6 (by omega)
    · rw [lkE]
      have hi : groups.take (i + 1) = groups.take i ++ [g] := by rw [List.take_add_one, hg]; rfl
      rw [hi, List.map_append, List.map_append]
      rfl
  · rintro σ' ⟨a, h1, h2⟩
    exact X.retOwn h1 rfl rfl
end Mine
end
section
open PySem PySem.Spec PySem.Calls PyProof.Rows PySem.W
namespace Mine
variable {p : Program} {w : World} {K : Frag} {n : Nat} {env : Env} {σ : Store} {N N' : Store → Prop} {R : D → Prop} {rest : List Stmt}

theorem strsAre_zip : ∀ {xs : List Str} {ts : List Tok}, ts.length = xs.length → StrsAre (List.zipWith (fun x t => Value.str x t) xs ts) xs
  | [], ts, h => by cases ts with | nil => exact .nil | cons t ts => simp at h
  | x :: xs, [], h => by simp at h
  | x :: xs, t :: ts, h => .cons x t (strsAre_zip (by simpa using h))
theorem MethV.join {sep : Str} {ys : List Str} (hs : sep.length ≤ 16) (hw : (ys.map (·.length)).sum + ys.length ≤ 1048576) : MethV p w K n "str.join" (.str sep) [.list (ys.map .str)] (.str (Txt.join sep ys)) := by
  rintro O A s _ vs Q E ok st ⟨t, rfl⟩ r hQ
  simp only [RdL, Rd] at r
  obtain ⟨_, _, rfl, ⟨a, o, us, rfl, ho, hl, rl⟩, rfl⟩ := r
  obtain ⟨ts, hlen, rfl⟩ := rl.strs
  exact join_listW (hl.isList (exc_get ho).2) (by simpa using strsAre_zip hlen) hs hw fun t' k => hQ _ _ (.tok s _) ⟨_, rfl⟩

noncomputable def pv (b c d : Int) (q : Str) : Int := if q = "b" then b else if q = "c" then c else d
noncomputable def patL (b c d : Int) : List (Str × D) := [("b", .int b), ("c", .int c), ("d", .int d)]
noncomputable def pts3 : List Str := ["b", "c", "d"]
theorem pat_get {b c d : Int} {q : Str} (hq : q ∈ pts3) : getK (patL b c d) q = some (.int (pv b c d q)) := by
  simp only [pts3, List.mem_cons, List.not_mem_nil, or_false] at hq
  rcases hq with rfl | rfl | rfl <;> rfl
noncomputable def stuckS (pat : Str → Int) : List (Nat × List (Str × Nat)) → Str → Str
  | [], acc => acc
  | e :: r, acc => stuckS pat r (if e.2.all (fun q => !decide (pat q.1 < q.2)) then acc ++ Txt.join "" (e.2.map (·.1)) else acc)
theorem stuckS_append (pat : Str → Int) : ∀ (l r : List (Nat × List (Str × Nat))) (acc : Str), stuckS pat (l ++ r) acc = stuckS pat r (stuckS pat l acc)
  | [], r, acc => rfl
  | e :: l, r, acc => by rw [List.cons_append, stuckS, stuckS, stuckS_append pat l r]
/-- two names of a pair -/
noncomputable def fTwo (x z : Str) : D → Store → Store
  | .tup [a, b], σ => put (put σ x (.val a)) z (.val b)
  | _, σ => σ
theorem all_filter {α : Type} (l : List α) (f : α → Bool) {β : Type} (g : α → β) : ((l.filter f).map g).isEmpty = l.all (fun x => !f x) := by
  induction l with
  | nil => rfl
  | cons a l ih =>
    rw [List.filter_cons, List.all_cons]
    cases h : f a
    · simpa using ih
    · simp

theorem stuck_fn (kx : KX K) {es : List (Nat × List (Str × Nat))} {b c d : Int} (hq : ∀ e ∈ es, ∀ q ∈ e.2, q.1 ∈ pts3) (hlen : es.length ≤ 7) (hl3 : ∀ e ∈ es, e.2.length ≤ 3) :
    Fn p w K (n + 1) 172 [.list (es.map exitD), .dict (patL b c d)] (.str (stuckS (pv b c d) es "")) := by
  refine Fn.intro (names := ["exits", "patience"]) (kx.f (fd := fStuck) 6) rfl rfl rfl rfl rfl rfl rfl ?_ rfl (by decide) (by decide) (by decide) (by decide) fun L => ?_
  · intro vs h; match vs, h with
    | [a, b], _ => rfl
  have hz6 : ∀ {m : Nat}, m ≤ 1000 → m ≤ sizeLine := fun h => Nat.le_trans h (by decide)
  have jlen : ∀ e ∈ es, (Txt.join "" (e.2.map (·.1))).length ≤ 3 := fun e he => by
    have h1 := StrLaws.join_length_le "" (e.2.map (·.1))
    rw [← StrLaws.glued_eq_join] at h1
    change (Txt.join "" (e.2.map (·.1))).length ≤ _ at h1
    have h2 : ∀ l : List (Str × Nat), (∀ q ∈ l, q.1 ∈ pts3) → (((l.map (·.1)).map (·.length)).sum) = l.length := by
      intro l hl
      induction l with
      | nil => rfl
      | cons q l ih =>
        have : q.1.length = 1 := by
          have h3 : ∀ x ∈ pts3, x.length = 1 := by decide
          exact h3 _ (hl q (by simp))
        simp only [List.map_cons, List.sum_cons, List.length_cons]
        rw [ih fun q hq => hl q (by simp [hq]), this]; omega
    rw [h2 e.2 (hq e he)] at h1
    have h4 : ("" : Str).length = 0 := rfl
    rw [h4, Nat.mul_zero, Nat.add_zero] at h1
    exact Nat.le_trans h1 (hl3 e he)
  refine X.assign .str (.inl rfl) (by decide) rfl ?_
  refine X.for (tp := true) (ds := es.map exitD) (f := fTwo "cut" "points") (fun i σ' => σ'.lookup ("stuck" : Str) = some (.val (.str (stuckS (pv b c d) (es.take i) ""))) ∧ (stuckS (pv b c d) (es.take i) "").length ≤ 3 * i ∧ σ'.lookup ("patience" : Str) = some (.val (.dict (patL b c d))))
    (EvW.list (Ev.name rfl)) (cnOk (by decide)) ?_ .tuple ⟨rfl, Nat.zero_le _, rfl⟩ ?_ ?_
  · intro d hd
    obtain ⟨e, he, rfl⟩ := List.mem_map.mp hd
    exact Asg.two (.inl rfl) (by decide) (.inl rfl) (by decide)
  · rintro i d σ' hd ⟨h1, h1', h2⟩
    rw [List.getElem?_map] at hd
    cases hg : es[i]? with
    | none => rw [hg] at hd; cases hd
    | some e =>
    rw [hg] at hd
    obtain rfl : d = exitD e := (Option.some.inj hd).symm
    have hem : e ∈ es := List.mem_of_getElem? hg
    have hi : i < es.length := by
      rcases Nat.lt_or_ge i es.length with q | q
      · exact q
      · rw [List.getElem?_eq_none q] at hg; cases hg
    have htk : es.take (i + 1) = es.take i ++ [e] := by rw [List.take_add_one, hg]; rfl
    show X p w K n (callEnvC fStuck L 172) (put (put σ' "cut" (.val (.int e.1))) "points" (.val (.list (e.2.map fun q => .tup [.str q.1, .int q.2])))) _ _ _
    generalize hS : put (put σ' "cut" (.val (.int e.1))) "points" (.val (.list (e.2.map fun q => .tup [.str q.1, .int q.2]))) = S
    have s1 : S.lookup ("stuck" : Str) = some (.val (.str (stuckS (pv b c d) (es.take i) ""))) := hS ▸ lkN (lkN h1)
    have s2 : S.lookup ("patience" : Str) = some (.val (.dict (patL b c d))) := hS ▸ lkN (lkN h2)
    have s3 : S.lookup ("points" : Str) = some (.val (.list (e.2.map fun q => .tup [.str q.1, .int q.2]))) := hS ▸ lkE
    have hcomp : ∀ {ifs : List Expr} {elt target iter : Expr} {scope : Scope}, True := trivial
    refine X.ite (b := e.2.all (fun q => !decide (pv b c d q.1 < q.2))) (N' := fun σ'' => σ''.lookup ("stuck" : Str) = some (.val (.str (stuckS (pv b c d) (es.take (i + 1)) ""))) ∧ (stuckS (pv b c d) (es.take (i + 1)) "").length ≤ 3 * (i + 1) ∧ σ''.lookup ("patience" : Str) = some (.val (.dict (patL b c d)))) ?_ (fun hb => ?_) (fun hb => ?_) fun σ'' h => X.nil h
    · refine EvB.to ?_ (EvB.cmp (Ev.v (Ev.comp (xs := e.2) (enc := fun q => .tup [.str q.1, .int q.2]) (cl := [("patience", L + 1)]) (caps := ["patience"]) (keep := fun q => decide (pv b c d q.1 < q.2)) (g := fun q => .str q.1) (binds := fun q => [("point", .str q.1), ("number", .int q.2)]) (tp := true)
        { kind := rfl, names := by decide, clos := rfl, cap := ?_, asg := fun C q hq => AsgC.two rfl rfl (by decide) rfl (by decide) (by decide), tests := ?_, elt := fun C q hq _ => Ev.name lkB, size := hz6 (Nat.le_trans (hl3 e hem) (by decide)) } (EvW.list (Ev.name s3)) .tuple)) (Ev.v (Ev.list EvLs.nil (by decide))) .eqNil rfl)
      · exact all_filter _ _ _
      · intro C x hx
        obtain rfl : x = ("patience" : Str) := by simpa using hx
        exact ⟨L + 1, .inl rfl, rfl, .inl rfl, rfl⟩
      · intro C q hq'
        exact EvT.one (EvB.cmp (Ev.v (Ev.sub (Ev.v (Ev.name (lkC s2 rfl (by decide)))) (Ev.v (Ev.name lkB)) (IdxOk.dict (pat_get (hq e hem q hq'))) fun _ _ => rfl)) (Ev.v (Ev.name lkB)) .ltI rfl)
    · have hst : stuckS (pv b c d) (es.take (i + 1)) "" = stuckS (pv b c d) (es.take i) "" ++ Txt.join "" (e.2.map (·.1)) := by
        rw [htk, stuckS_append, stuckS, stuckS, if_pos hb]
      have hlj := jlen e hem
      refine X.assign (d := .str (stuckS (pv b c d) (es.take (i + 1)) "")) ?_ (.inl rfl) (by decide) rfl (X.nil ⟨lkE, ?_, lkN s2⟩)
      · rw [hst]
        refine Ev.bin (Ev.v (Ev.name s1)) (Ev.v (Ev.methS F.slot_str_join F.type_str_join .str (EvLs.one (Ev.to ?_ (Ev.comp (xs := e.2) (enc := fun q => .tup [.str q.1, .int q.2]) (cl := []) (caps := []) (keep := fun _ => true) (g := fun q => .str q.1) (binds := fun q => [("point", .str q.1), ("number", .int q.2)]) (tp := true)
          { kind := rfl, names := by decide, clos := rfl, cap := fun C x hx => by simp at hx, asg := fun C q hq => AsgC.two rfl rfl (by decide) rfl (by decide) (by decide), tests := fun C q hq => EvT.nil, elt := fun C q hq _ => Ev.name lkB, size := hz6 (Nat.le_trans (hl3 e hem) (by decide)) } (EvW.list (Ev.name s3)) .tuple)))
          (MethV.join (ys := e.2.map (·.1)) (by decide) ?_))) (BinOk.addS (a := stuckS (pv b c d) (es.take i) "") (b := Txt.join "" (e.2.map (·.1))) ?_)
        · rw [filter_tt, List.map_map]; rfl
        · have h2 : ∀ l : List (Str × Nat), (∀ q ∈ l, q.1 ∈ pts3) → (((l.map (·.1)).map (·.length)).sum) = l.length := by
            intro l hl
            induction l with
            | nil => rfl
            | cons q l ih =>
              have : q.1.length = 1 := by
                have h3 : ∀ x ∈ pts3, x.length = 1 := by decide
                exact h3 _ (hl q (by simp))
              simp only [List.map_cons, List.sum_cons, List.length_cons]
              rw [ih fun q hq => hl q (by simp [hq]), this]; omega
          rw [h2 e.2 (hq e hem), List.length_map]
          have := hl3 e hem
          omega
        · simp only [sizeLine]; omega
      · rw [hst]
        have : ∀ x y : Str, (x ++ y).length = x.length + y.length := fun x y => by
          show (x.cps ++ y.cps).size = _; exact Array.size_append
        rw [this]; omega
    · have hst : stuckS (pv b c d) (es.take (i + 1)) "" = stuckS (pv b c d) (es.take i) "" := by
        rw [htk, stuckS_append, stuckS, stuckS, if_neg (by rw [hb]; decide)]
      exact X.nil ⟨by rw [hst]; exact s1, by rw [hst]; omega, s2⟩
  · rintro σ' ⟨h1, h1', h2⟩
    rw [List.length_map, List.take_length] at h1
    exact X.ret (Ev.name h1) rfl
end Mine
end
section
open PySem PySem.Spec PySem.Calls PyProof.Rows PySem.W
namespace Mine
variable {p : Program} {w : World} {K : Frag} {n : Nat} {env : Env} {σ : Store} {N N' : Store → Prop} {R : D → Prop} {rest : List Stmt}

/-! a text of two signs, taken apart -/
theorem unpack2 {A : Around} {s : Shared} {E : Value → Shared → Prop} {x : Str} {t : Tok} {c e : Nat} {Q : List Value → Shared → Prop} (hh : A.handled = none) (hx : x.cps = #[c, e]) (ha : x.cps.all (· < 128) = true)
    (hQ : ∀ h' tk u v, (∀ b o, s.heap.get? b = some o → h'.get? b = some o) → Q [.str ⟨#[c]⟩ u, .str ⟨#[e]⟩ v] { s with heap := h', toks := tk }) : wpAny (model p w) A (unpackItems (.str x t) 2 none) Q E s := by
  unfold unpackItems
  refine wpAny_bind ?_
  unfold notIterableAtAll
  refine wpAny_bind (wpAny_specialOf (typeIs_str s x t) F.slot_str_iter.lookup ?_)
  refine wpAny_pure ?_
  simp only [Bool.false_eq_true, if_false]
  refine wpAny_bind (wpAny_holding (wpAny_pyIter_ascii ha ?_))
  have W := Walks.strAscii (prog := p) (w := w) hh s.heap.objs.size x t
  have hn : x.cps.size = 2 := by rw [hx]; rfl
  have k0 : ∀ b o, s.heap.get? b = some o → b ∉ [s.heap.objs.size] := fun b o h q => by rw [List.mem_singleton.mp q] at h; exact Nat.lt_irrefl _ (Heap.lt_size h)
  refine wpAny_bind (wpAny_holding ?_)
  show wpAny _ _ (draw (.ref s.heap.objs.size) (1 + 1)) _ _ _
  unfold draw
  refine wpAny_bind (W.item 0 _ _ _ (by omega) ⟨_, Heap.get?_push_size _ rfl, rfl, rfl⟩ fun v1 h1 tk1 hP1 hs1 hk1 => ?_)
  refine wpAny_bind (wpAny_holding ?_)
  unfold draw
  refine wpAny_bind (W.item 1 _ _ _ (by omega) hs1 fun v2 h2 tk2 hP2 hs2 hk2 => ?_)
  refine wpAny_bind (wpAny_holding ?_)
  unfold draw
  refine wpAny_pure (wpAny_pure (wpAny_pure ?_))
  obtain ⟨c1, u1, e1, rfl⟩ := hP1
  obtain ⟨c2, u2, e2, rfl⟩ := hP2
  rw [hx] at e1 e2
  cases e1
  cases e2
  rw [if_neg (by simp)]
  refine wpAny_bind (wpAny_holding (W.done _ _ _ (hn ▸ hs2) fun h3 tk3 hk3 => ?_))
  simp only [Option.isSome_none, Bool.false_eq_true, if_false]
  exact wpAny_pure (hQ h3 tk3 _ _ fun b o h => hk3 b o (k0 b o h) (hk2 b o (k0 b o h) (hk1 b o (k0 b o h) (Heap.get?_push_of_some _ h))))
theorem tie_two : ∀ t ∈ ties, t.cps = #[t.cps.getD 0 0, t.cps.getD 1 0] ∧ t.cps.all (· < 128) = true := by decide +kernel
theorem Asg.tie {x z : Str} {px pz pos : Pos} {k : Nat} {t : Str} (ht : t ∈ ties) (hk : env.kindOf x = some .local ∨ env.kindOf x = some .cell) (hx : okName x = true) (hk' : env.kindOf z = some .local ∨ env.kindOf z = some .cell) (hz : okName z = true) :
    Asg p w K env (.Tuple [.Name x px, .Name z pz] k pos) (.str t) (fun σ => put (put σ x (.val (.str (sg t 0)))) z (.val (.str (sg t 1)))) := fun B O₀ A s σ v Q E hh st r hQ => by
  obtain ⟨u, rfl⟩ := r
  rw [arm_assign_Tuple]
  refine wpAny_bind (wpAny_standAt ?_)
  unfold unpack
  refine wpAny_bind (wpAny_holding (unpack2 hh (tie_two t ht).1 (tie_two t ht).2 fun h1 tk u1 u2 hk1 => ?_))
  have y1 : Sh s { s with heap := h1, toks := tk } := .mk' (.of hk1)
  show wpAny _ _ (assignInOrder [assign (.Name x px) env, assign (.Name z pz) env] _) _ _ _
  refine assignInOrder_cons (wpAny_assign_Name ((st.sh y1).storeV (d := .str (sg t 0)) hk hx ⟨_, rfl⟩ fun s2 st2 sb2 _ => ?_))
  exact assignInOrder_cons (wpAny_assign_Name (st2.storeV (d := .str (sg t 1)) hk' hz ⟨_, rfl⟩ fun s3 st3 _ _ => assignInOrder_nil (hQ s3 st3)))
end Mine
end
section
open PySem PySem.Spec PySem.Calls PyProof.Rows PySem.W
namespace Mine
variable {p : Program} {w : World} {K : Frag} {n : Nat} {env : Env} {σ : Store} {N N' : Store → Prop} {R : D → Prop} {rest : List Stmt}

/-! dicts of texts, of ints -/
noncomputable def setP {α : Type} : List (Str × α) → Str → α → List (Str × α)
  | [], x, d => [(x, d)]
  | (k, e) :: r, x, d => if k = x then (k, d) :: r else (k, e) :: setP r x d
noncomputable def toK {α : Type} (f : α → D) (l : List (Str × α)) : List (Str × D) := l.map fun z => (z.1, f z.2)
theorem getK_toK {α : Type} (f : α → D) (x : Str) : ∀ l : List (Str × α), getK (toK f l) x = (l.lookup x).map f
  | [] => rfl
  | (k, e) :: l => by
    have ih := getK_toK f x l
    unfold getK toK at *
    rw [List.map_cons, List.find?_cons, List.lookup_cons]
    by_cases h : k = x
    · subst h; simp
    · have q : (x == k) = false := by simpa using fun e => h e.symm
      simp only [h, decide_false, q]
      exact ih
theorem setK_toK {α : Type} (f : α → D) (x : Str) (v : α) : ∀ l : List (Str × α), setK (toK f l) x (f v) = toK f (setP l x v)
  | [] => rfl
  | (k, e) :: l => by
    have ih := setK_toK f x v l
    unfold toK at *
    rw [List.map_cons, setK, setP]
    by_cases h : k = x
    · rw [if_pos h, if_pos h]; rfl
    · rw [if_neg h, if_neg h, List.map_cons, ← ih]
theorem setP_len {α : Type} (x : Str) (v : α) : ∀ l : List (Str × α), (setP l x v).length ≤ l.length + 1
  | [] => by simp [setP]
  | (k, e) :: l => by
    rw [setP]
    split
    · simp
    · have := setP_len x v l
      simp only [List.length_cons]; omega
theorem setP_keys {α : Type} (x : Str) (v : α) : ∀ l : List (Str × α), x ∈ l.map (·.1) → (setP l x v).map (·.1) = l.map (·.1)
  | [], h => by simp at h
  | (k, e) :: l, h => by
    rw [setP]
    by_cases q : k = x
    · rw [if_pos q]; rfl
    · rw [if_neg q, List.map_cons, List.map_cons, setP_keys x v l]
      rcases List.mem_cons.mp h with h | h
      · exact absurd h.symm q
      · exact h
theorem setP_lookup {α : Type} (x y : Str) (v : α) : ∀ l : List (Str × α), (setP l x v).lookup y = if y = x then some v else l.lookup y
  | [] => by
    rw [setP, List.lookup_cons]
    by_cases h : y = x
    · simp [h]
    · have : (y == x) = false := by simpa using h
      simp [h, this]
  | (k, e) :: l => by
    have ih := setP_lookup x y v l
    rw [setP]
    by_cases q : k = x
    · rw [if_pos q, List.lookup_cons, List.lookup_cons]
      subst q
      by_cases h : y = k
      · simp [h]
      · have : (y == k) = false := by simpa using h
        simp [h, this]
    · rw [if_neg q, List.lookup_cons, List.lookup_cons, ih]
      by_cases h : y = k
      · subst h; simp [q]
      · have : (y == k) = false := by simpa using h
        simp [this]
theorem setP_mem {α : Type} (x : Str) (v : α) : ∀ {l : List (Str × α)} {z : Str × α}, z ∈ setP l x v → z ∈ l ∨ z.2 = v
  | [], z, h => by rw [setP] at h; rw [List.mem_singleton.mp h]; exact .inr rfl
  | (k, e) :: l, z, h => by
    rw [setP] at h
    split at h
    · rcases List.mem_cons.mp h with h | h
      · rw [h]; exact .inr rfl
      · exact .inl (List.mem_cons_of_mem _ h)
    · rcases List.mem_cons.mp h with h | h
      · rw [h]; exact .inl List.mem_cons_self
      · exact (setP_mem x v h).imp (List.mem_cons_of_mem _) id
theorem lookup_mem_keys {α : Type} {x : Str} : ∀ {l : List (Str × α)}, x ∈ l.map (·.1) → ∃ v, l.lookup x = some v
  | [], h => by simp at h
  | (k, e) :: l, h => by
    rw [List.lookup_cons]
    by_cases q : x = k
    · subst q; exact ⟨e, by simp⟩
    · have : (x == k) = false := by simpa using q
      rw [this]
      rcases List.mem_cons.mp h with h | h
      · exact absurd h q
      · exact lookup_mem_keys h

/-! the fire, as _law_burn tells it -/
structure BSt where
  ways : List (Str × Str)
  left : List (Str × Int)
  asked : List Str
noncomputable def inW (s : BSt) (q : Str) : Bool := (s.ways.lookup q).isSome
noncomputable def readyB (s : BSt) (t : Str) : Bool := !decide (t ∈ s.asked) && (inW s (sg t 0) != inW s (sg t 1))
noncomputable def nearB (s : BSt) (t : Str) : Str := if inW s (sg t 0) then sg t 0 else sg t 1
noncomputable def farB (s : BSt) (t : Str) : Str := if inW s (sg t 0) then sg t 1 else sg t 0
noncomputable def askB (s : BSt) (t : Str) : BSt :=
  if (s.left.lookup (farB s t)).getD 0 = 0 then { s with asked := s.asked ++ [t], ways := setP s.ways (farB s t) (farB s t ++ (s.ways.lookup (nearB s t)).getD "") }
  else { s with asked := s.asked ++ [t], left := setP s.left (farB s t) ((s.left.lookup (farB s t)).getD 0 - 1) }
noncomputable def burnStep (row : List Str) (s : BSt) : BSt := match row.filter (readyB s) with
  | [] => s
  | t :: _ => askB s t
noncomputable def burnIt (row : List Str) (s : BSt) : Nat → BSt
  | 0 => s
  | k + 1 => burnStep row (burnIt row s k)
noncomputable def burn0 (b c d : Int) : BSt := ⟨[("a", "a")], [("b", b), ("c", c), ("d", d)], []⟩
structure GoodB (i : Nat) (s : BSt) : Prop where
  a : inW s "a" = true
  keys : s.left.map (·.1) = pts3
  asked : s.asked.length ≤ i
  ways : s.ways.length ≤ i + 1
  len : ∀ z ∈ s.ways, z.2.length ≤ i + 1
theorem tie_pts : ∀ t ∈ ties, (sg t 0 ∈ ("a" : Str) :: pts3) ∧ (sg t 1 ∈ ("a" : Str) :: pts3) := by decide +kernel
theorem far_pts {i : Nat} {s : BSt} {t : Str} (g : GoodB i s) (ht : t ∈ ties) (hr : readyB s t = true) : farB s t ∈ pts3 ∧ inW s (farB s t) = false ∧ inW s (nearB s t) = true := by
  unfold readyB at hr
  rw [Bool.and_eq_true] at hr
  have hx := hr.2
  have hp := tie_pts t ht
  have off : ∀ q, q ∈ ("a" : Str) :: pts3 → inW s q = false → q ∈ pts3 := fun q hq hf => by
    rcases List.mem_cons.mp hq with h | h
    · rw [h, g.a] at hf; cases hf
    · exact h
  unfold farB nearB
  cases h0 : inW s (sg t 0) <;> cases h1 : inW s (sg t 1)
  · rw [h0, h1] at hx; cases hx
  · simp only [Bool.false_eq_true, if_false]; exact ⟨off _ hp.1 h0, h0, h1⟩
  · simp only [if_true]; exact ⟨off _ hp.2 h1, h1, h0⟩
  · rw [h0, h1] at hx; cases hx
theorem str_len_append (x y : Str) : (x ++ y).length = x.length + y.length := by show (x.cps ++ y.cps).size = _; exact Array.size_append
theorem GoodB.ask {i : Nat} {s : BSt} {t : Str} (g : GoodB i s) (ht : t ∈ ties) (hr : readyB s t = true) : GoodB (i + 1) (askB s t) := by
  obtain ⟨h1, h2, h3⟩ := far_pts g ht hr
  have ha := g.asked
  have hw := g.ways
  unfold askB
  split
  · refine ⟨?_, g.keys, by simp; omega, ?_, fun z hz => ?_⟩
    · unfold inW
      rw [setP_lookup]
      split
      · rfl
      · exact g.a
    · have := setP_len (farB s t) (farB s t ++ (s.ways.lookup (nearB s t)).getD "") s.ways
      show (setP _ _ _).length ≤ _
      omega
    · rcases setP_mem _ _ hz with h | h
      · exact Nat.le_succ_of_le (g.len z h)
      · rw [h, str_len_append]
        have l1 : ∀ q ∈ pts3, q.length = 1 := by decide
        rw [l1 _ h1]
        unfold inW at h3
        obtain ⟨v, hv⟩ := Option.isSome_iff_exists.mp h3
        rw [hv]
        have := g.len _ (mem_of_lookup hv)
        simp only [Option.getD_some]
        show 1 + v.length ≤ _
        simp only at this
        omega
  · refine ⟨g.a, ?_, by simp; omega, by show s.ways.length ≤ _; omega, fun z hz => Nat.le_succ_of_le (g.len z hz)⟩
    show (setP _ _ _).map _ = _
    rw [setP_keys _ _ _ (by rw [g.keys]; exact h1), g.keys]
theorem GoodB.mono {i j : Nat} {s : BSt} (g : GoodB i s) (h : i ≤ j) : GoodB j s := ⟨g.a, g.keys, Nat.le_trans g.asked h, Nat.le_trans g.ways (by omega), fun z hz => Nat.le_trans (g.len z hz) (by omega)⟩
theorem GoodB.step {i : Nat} {s : BSt} {row : List Str} (hrow : ∀ t ∈ row, t ∈ ties) (g : GoodB i s) : GoodB (i + 1) (burnStep row s) := by
  unfold burnStep
  cases h : row.filter (readyB s) with
  | nil => exact g.mono (Nat.le_succ _)
  | cons t r =>
    have hm : t ∈ row.filter (readyB s) := by rw [h]; exact List.mem_cons_self
    exact g.ask (hrow t (List.mem_filter.mp hm).1) (List.mem_filter.mp hm).2
theorem GoodB.it {b c d : Int} {row : List Str} (hrow : ∀ t ∈ row, t ∈ ties) : ∀ k, GoodB k (burnIt row (burn0 b c d) k)
  | 0 => ⟨rfl, rfl, Nat.le_refl _, Nat.le_refl _, fun z hz => by rw [List.mem_singleton.mp hz]; exact Nat.le_refl _⟩
  | k + 1 => (GoodB.it hrow k).step hrow
end Mine
end
section
open PySem PySem.Spec PySem.Calls PyProof.Rows PySem.W
namespace Mine
variable {p : Program} {w : World} {K : Frag} {n : Nat} {env : Env} {σ : Store} {N N' : Store → Prop} {R : D → Prop} {rest : List Stmt}

theorem getK_some {α : Type} (f : α → D) (x : Str) (l : List (Str × α)) : (getK (toK f l) x).isSome = (l.lookup x).isSome := by rw [getK_toK]; cases l.lookup x <;> rfl

/-- the store of _law_burn -/
structure BurnS (s : BSt) (row : List Str) (σ : Store) : Prop where
  ways : ∃ a, σ.lookup ("ways" : Str) = some (.dct a (toK .str s.ways))
  left : ∃ a, σ.lookup ("left" : Str) = some (.dct a (toK .int s.left))
  asked : ∃ a, σ.lookup ("asked" : Str) = some (.lst a (s.asked.map .str))
  row : σ.lookup ("row" : Str) = some (.val (.list (row.map .str)))

theorem inD_of {s : BSt} {e f : Expr} {q : Str} {pos : Pos} (he : Ev p w K n env σ e (.str q)) (hf : EvV p w K n env σ f (.dict (toK .str s.ways))) (hm : behindInMarks .In f = false := by rfl) : Ev p w K n env σ (.Compare e [.In] [f] pos) (.bool (inW s q)) := by
  have h := Ev.cmp (pos := pos) (Ev.v he) hf (CmpOk.inD (p := p) (w := w) (K := K) (n := n)) hm
  rw [getK_some] at h
  exact h

set_option maxHeartbeats 4000000 in
theorem burn_fn (kx : KX K) {row : List Str} {b c d : Int} (hrow : ∀ t ∈ row, t ∈ ties) (hlen : row.length ≤ 6) :
    Fn p w K (n + 1) 177 [.list (row.map .str), .dict (patL b c d)] (.dict (toK .str (burnIt row (burn0 b c d) row.length).ways)) := by
  refine Fn.intro (names := ["row", "patience"]) (kx.f (fd := fBurn) 7) rfl rfl rfl rfl rfl rfl rfl ?_ rfl (by decide) (by decide) (by decide) (by decide) fun L => ?_
  · intro vs h; match vs, h with
    | [a, b], _ => rfl
  have hz6 : ∀ {m : Nat}, m ≤ 1000 → m ≤ sizeLine := fun h => Nat.le_trans h (by decide)
  refine X.newK (kds := [("a", .str "a")]) (EvPr.cons .str .str .nil) (.inr rfl) (by decide) rfl rfl (by decide) (by decide) (by decide) rfl fun aw => ?_
  refine X.copyK (ks := patL b c d) (EvG.b kx 7) (Ev.v (Ev.name rfl)) (.inl rfl) (by decide) (show (3 : Nat) ≤ sizeLine by decide) rfl rfl rfl fun al => ?_
  refine Stp.newL (ds := []) EvLs.nil (.inr rfl) (by decide) (by decide) rfl fun aa => ?_
  refine X.for (tp := false) (ds := row.map .str) (f := fun d σ => put σ "turn" (.val d)) (fun i σ' => BurnS (burnIt row (burn0 b c d) i) row σ')
    (EvW.list (Ev.name rfl)) (cnOk (by decide)) (fun d _ => Asg.name (.inl rfl) (by decide)) .name ⟨⟨aw, rfl⟩, ⟨al, rfl⟩, ⟨aa, rfl⟩, rfl⟩ ?_ ?_
  · rintro i dd σ' hd hI
    have hi : i < row.length := by
      rcases Nat.lt_or_ge i (row.map D.str).length with q | q
      · rwa [List.length_map] at q
      · rw [List.getElem?_eq_none q] at hd; cases hd
    have g := GoodB.it (b := b) (c := c) (d := d) hrow i
    show X p w K n _ _ _ (BurnS (burnStep row (burnIt row (burn0 b c d) i)) row) _
    generalize burnIt row (burn0 b c d) i = s at hI g ⊢
    obtain ⟨⟨aw, hw⟩, ⟨al, hl⟩, ⟨aa, hk⟩, hr⟩ := hI
    generalize hS : put σ' "turn" (.val dd) = S
    have s1 : S.lookup ("ways" : Str) = some (.dct aw (toK .str s.ways)) := hS ▸ lkN hw
    have s2 : S.lookup ("left" : Str) = some (.dct al (toK .int s.left)) := hS ▸ lkN hl
    have s3 : S.lookup ("asked" : Str) = some (.lst aa (s.asked.map .str)) := hS ▸ lkN hk
    have s4 : S.lookup ("row" : Str) = some (.val (.list (row.map .str))) := hS ▸ lkN hr
    refine X.assignComp (xs := row) (enc := .str) (cl := [("ways", L + 1), ("asked", L + 2)]) (caps := ["ways", "asked"]) (keep := readyB s) (g := .str) (binds := fun t => [("tie", .str t)]) (tp := false)
      { kind := rfl, names := by decide, clos := ?_, cap := ?_, asg := fun C t ht => AsgC.name rfl rfl (by decide), tests := ?_, elt := fun C t ht _ => Ev.name lkB, size := hz6 (by omega) } (EvW.list (Ev.name s4)) .name (cnOk (by decide)) rfl rfl (by decide) ?_
    · rfl
    · intro C x hx
      rcases List.mem_cons.mp hx with rfl | hx
      · exact ⟨L + 1, .inl rfl, rfl, .inl rfl, rfl⟩
      · obtain rfl : x = ("asked" : Str) := by simpa using hx
        exact ⟨L + 2, .inl rfl, rfl, .inl rfl, rfl⟩
    · intro C t ht
      have c1 : (ceS S ["ways", "asked"] [("tie", .str t)]).lookup ("ways" : Str) = some (.dct aw (toK .str s.ways)) := lkC s1 rfl (by decide)
      have c2 : (ceS S ["ways", "asked"] [("tie", .str t)]).lookup ("asked" : Str) = some (.lst aa (s.asked.map .str)) := lkC s3 rfl (by decide)
      have hb : readyB s t = (!decide (t ∈ s.asked) && ((inW s (sg t 0) != inW s (sg t 1)) && true)) := by rw [Bool.and_true]; rfl
      rw [hb]
      exact EvT.one (EvB.ops (EvBs.andC (EvB.cmp (Ev.v (Ev.name lkB)) (EvV.name c2 rfl) (CmpOk.notInL rfl) rfl) fun _ => EvBs.andC (EvB.cmp
        (Ev.v (inD_of (Ev.sign0 (hrow t ht) (Ev.name lkB) .int fun _ _ => rfl) (EvV.name c1 rfl)))
        (Ev.v (inD_of (Ev.sign1 (hrow t ht) (Ev.name lkB) .int fun _ _ => rfl) (EvV.name c1 rfl))) .neB rfl) fun _ => EvBs.andN))
    · have cmpR : ∀ {S' : Store} {q1 q2 q3 : Pos} {l : List Str}, S'.lookup ("ready" : Str) = some (.val (.list (l.map .str))) → EvB p w K n (callEnvC fBurn L 177) S' (.Compare (.Name "ready" q1) [.NotEq] [.List [] q2] q3) (!(l.map D.str).isEmpty) := fun h => EvB.cmp (Ev.v (Ev.name h)) (Ev.v (Ev.list .nil (by decide))) .neNil rfl
      cases hf : row.filter (readyB s) with
      | nil =>
        have hst : burnStep row s = s := by unfold burnStep; rw [hf]
        rw [hst]
        exact X.iteF (cmpR (l := []) lkE) (X.nil ⟨⟨aw, lkN s1⟩, ⟨al, lkN s2⟩, ⟨aa, lkN s3⟩, lkN s4⟩)
      | cons t r =>
        have hst : burnStep row s = askB s t := by unfold burnStep; rw [hf]
        have hm : t ∈ row.filter (readyB s) := by rw [hf]; exact List.mem_cons_self
        have ht : t ∈ ties := hrow t (List.mem_filter.mp hm).1
        obtain ⟨f1, f2, f3⟩ := far_pts g ht (List.mem_filter.mp hm).2
        obtain ⟨lv, hlv⟩ := lookup_mem_keys (l := s.left) (x := farB s t) (by rw [g.keys]; exact f1)
        have hga := g.asked
        have hgw := g.ways
        refine X.ite (N' := BurnS (askB s t) row) (cmpR (l := t :: r) lkE) (fun _ => ?_) (fun h => by cases h) fun σ'' h => X.nil (hst ▸ h)
        have r0 : ∀ {S' : Store} {q1 q2 q3 : Pos} {k : Nat}, S'.lookup ("ready" : Str) = some (.val (.list ((t :: r).map .str))) → Ev p w K n (callEnvC fBurn L 177) S' (.Subscript (.Name "ready" q1) (.Constant (.int 0) k q2) q3) (.str t) := fun h => Ev.sub (Ev.v (Ev.name h)) (Ev.v .int) (IdxOk.list (by decide) (by decide) rfl) fun _ _ => rfl
        refine X.step (Stp.append (d := .str t) (lkN s3) (r0 lkE) (by rw [List.length_map]; exact hz6 (by omega))) ?_
        refine X.asg (d := .str t) (r0 (lkN lkE)) (Asg.tie ht (.inl rfl) (by decide) (.inl rfl) (by decide)) rfl rfl rfl ?_
        generalize hT : put (put (put (put S "ready" (.val (.list ((t :: r).map .str)))) "asked" (.lst aa (s.asked.map .str ++ [.str t]))) "near" (.val (.str (sg t 0)))) "far" (.val (.str (sg t 1))) = T
        have t1 : T.lookup ("ways" : Str) = some (.dct aw (toK .str s.ways)) := hT ▸ lkN (lkN (lkN (lkN s1)))
        have t2 : T.lookup ("left" : Str) = some (.dct al (toK .int s.left)) := hT ▸ lkN (lkN (lkN (lkN s2)))
        have t3 : T.lookup ("asked" : Str) = some (.lst aa ((s.asked ++ [t]).map .str)) := by rw [← hT, lkN (lkN lkE), List.map_append]; rfl
        have t4 : T.lookup ("row" : Str) = some (.val (.list (row.map .str))) := hT ▸ lkN (lkN (lkN (lkN s4)))
        have t5 : T.lookup ("near" : Str) = some (.val (.str (sg t 0))) := hT ▸ lkN lkE
        have t6 : T.lookup ("far" : Str) = some (.val (.str (sg t 1))) := hT ▸ lkE
        refine X.ite (b := !inW s (sg t 0)) (N' := fun U => U.lookup ("ways" : Str) = some (.dct aw (toK .str s.ways)) ∧ U.lookup ("left" : Str) = some (.dct al (toK .int s.left)) ∧ U.lookup ("asked" : Str) = some (.lst aa ((s.asked ++ [t]).map .str)) ∧ U.lookup ("row" : Str) = some (.val (.list (row.map .str))) ∧
          U.lookup ("near" : Str) = some (.val (.str (nearB s t))) ∧ U.lookup ("far" : Str) = some (.val (.str (farB s t)))) (EvB.to (by rw [getK_some]; rfl) (EvB.cmp (Ev.v (Ev.name t5)) (EvV.name t1 rfl) (CmpOk.notInD (ks := toK .str s.ways)) rfl)) (fun hb => ?_) (fun hb => ?_) ?_
        · have h0 : inW s (sg t 0) = false := by simpa using hb
          refine X.swap (Ev.tup (.cons (Ev.name t6) (EvLs.one (Ev.name t5))) (show (2 : Nat) ≤ sizeLine by decide)) rfl (by decide) rfl (by decide) rfl rfl (X.nil ⟨lkN (lkN t1), lkN (lkN t2), lkN (lkN t3), lkN (lkN t4), ?_, ?_⟩)
          · rw [lkE, nearB, h0]; rfl
          · rw [lkN lkE, farB, h0]; rfl
        · have h0 : inW s (sg t 0) = true := by simpa using hb
          refine X.nil ⟨t1, t2, t3, t4, ?_, ?_⟩
          · rw [t5, nearB, h0]; rfl
          · rw [t6, farB, h0]; rfl
        · rintro U ⟨u1, u2, u3, u4, u5, u6⟩
          unfold inW at f3
          obtain ⟨wv, hwv⟩ := Option.isSome_iff_exists.mp f3
          have hwl : wv.length ≤ i + 1 := g.len _ (mem_of_lookup hwv)
          have hfl : (farB s t).length = 1 := by
            have l1 : ∀ q ∈ pts3, q.length = 1 := by decide
            exact l1 _ f1
          have gl : getK (toK .int s.left) (farB s t) = some (.int lv) := by rw [getK_toK, hlv]; rfl
          have gw : getK (toK .str s.ways) (nearB s t) = some (.str wv) := by rw [getK_toK, hwv]; rfl
          have hll : (toK D.int s.left).length ≤ 1000 := by
            have := congrArg List.length g.keys
            simp only [List.length_map] at this
            rw [toK, List.length_map, this]; decide
          have lft : ∀ {q1 q2 q3 : Pos}, Ev p w K n (callEnvC fBurn L 177) U (.Subscript (.Name "left" q1) (.Name "far" q2) q3) (.int lv) := Ev.sub (EvV.name u2 rfl) (Ev.v (Ev.name u6)) (IdxOk.dict gl) fun _ _ => rfl
          refine X.ite (b := lv == 0) (N' := BurnS (askB s t) row) (EvB.cmp (Ev.v lft) (Ev.v .int) .eqI rfl) (fun hb => ?_) (fun hb => ?_) fun σ'' h => X.nil h
          · have hv : lv = 0 := by simpa using hb
            have ha : askB s t = { s with asked := s.asked ++ [t], ways := setP s.ways (farB s t) (farB s t ++ wv) } := by
              unfold askB; rw [hlv, hwv]; simp [hv]
            rw [ha]
            refine X.step (Stp.setK (d := .str (farB s t ++ wv)) u1 (Ev.name u6) (Ev.bin (Ev.v (Ev.name u6)) (Ev.v (Ev.sub (EvV.name u1 rfl) (Ev.v (Ev.name u5)) (IdxOk.dict gw) fun _ _ => rfl)) (BinOk.addS (a := farB s t) (b := wv) ?_)) ?_) (X.nil ⟨⟨aw, ?_⟩, ⟨al, lkN u2⟩, ⟨aa, lkN u3⟩, lkN u4⟩)
            · simp only [sizeLine]; omega
            · rw [toK, List.length_map]; exact hz6 (by omega)
            · rw [lkE, setK_toK]
          · have hv : ¬ lv = 0 := by simpa using hb
            have ha : askB s t = { s with asked := s.asked ++ [t], left := setP s.left (farB s t) (lv - 1) } := by
              unfold askB; rw [hlv]; simp [hv]
            rw [ha]
            refine X.step (Stp.setK (d := .int (lv - 1)) u2 (Ev.name u6) (Ev.bin (Ev.v lft) (Ev.v .int) .subI) (hz6 hll)) (X.nil ⟨⟨aw, lkN u1⟩, ⟨al, ?_⟩, ⟨aa, lkN u3⟩, lkN u4⟩)
            rw [lkE, setK_toK]
  · rintro σ' ⟨⟨aw, hw⟩, _, _, _⟩
    rw [List.length_map] at hw
    exact X.retOwn hw rfl rfl
end Mine
end
section
open PySem PySem.Spec PySem.Calls PyProof.Rows PySem.W
namespace Mine
variable {p : Program} {w : World} {K : Frag} {n : Nat} {env : Env} {σ : Store} {N N' : Store → Prop} {R : D → Prop} {rest : List Stmt}

/-! sorted(x), of two signs -/
noncomputable def twos : List Str := ["ab", "ac", "ad", "ba", "bc", "bd", "ca", "cb", "cd", "da", "db", "dc"]
noncomputable def sortL (x : Str) : List Str := if x.cps.getD 0 0 ≤ x.cps.getD 1 0 then [sg x 0, sg x 1] else [sg x 1, sg x 0]
noncomputable def tieOf (x : Str) : Str := Txt.join "" (sortL x)
theorem two_ok : ∀ x ∈ twos, x.cps = #[x.cps.getD 0 0, x.cps.getD 1 0] ∧ (sortedS [sg x 0, sg x 1] = true → sortL x = [sg x 0, sg x 1]) ∧ (sortedS [sg x 1, sg x 0] = true → sortL x = [sg x 1, sg x 0]) := by decide +kernel
theorem perm_two {a b : Str} {l : List Str} (h : l.Perm [a, b]) : l = [a, b] ∨ l = [b, a] := by
  match l, h.length_eq with
  | [x, y], _ =>
    have hx : x ∈ [a, b] := h.mem_iff.mp (by simp)
    rcases List.mem_cons.mp hx with rfl | hx
    · have := (List.perm_cons x).mp h
      rw [List.perm_singleton.mp this]; exact .inl rfl
    · obtain rfl := List.mem_singleton.mp hx
      have := (List.perm_cons x).mp (h.trans (List.Perm.swap x a []))
      rw [List.perm_singleton.mp this]; exact .inr rfl
theorem rdl_strs {g : Look} : ∀ {vs : List Value} {xs : List Str}, StrsAre vs xs → RdL p w g (xs.map .str) vs
  | _, _, .nil => .nil
  | _, _, .cons y t h => .cons ⟨t, rfl⟩ (rdl_strs h)
theorem FunV.sortedS {x : Str} (hx : x ∈ twos) : FunV p w K n (.builtin "sorted") (.str x) (.list ((sortL x).map .str)) := by
  rintro O A s _ Q E ok st ⟨t, rfl⟩ hQ
  obtain ⟨hc, hA, hB⟩ := two_ok x hx
  refine Calls.call_function_entry kind_sorted plain_sorted entry_sorted (args_sorted1 _) ?_
  unfold Builtin.«sorted»
  refine wpAny_bind (m := checkCount "sorted" 1 1 _) (wpAny_pure ?_)
  have hsz : x.cps.size = 2 := by rw [hc]; rfl
  refine wpAny_bind (wpAny_collect_str (A := A.in1) ok.hand x t (fun s' acc hk hg hd ho hi => ?_) (by rw [hsz]; decide))
  have y1 : Sh s s' := ⟨.of hk, ho, fun h => hg ▸ h⟩
  have hal : acc.toList.length = 2 := by rw [Array.length_toList, hi.1, hsz]
  obtain ⟨v1, v2, hacc⟩ : ∃ v1 v2, acc.toList = [v1, v2] := by
    match h : acc.toList, hal with
    | [a, b], _ => exact ⟨a, b, rfl⟩
  have h1 := hi.2 0 v1 (by rw [← Array.getElem?_toList, hacc]; rfl)
  have h2 := hi.2 1 v2 (by rw [← Array.getElem?_toList, hacc]; rfl)
  obtain ⟨c1, u1, e1, rfl⟩ := h1
  obtain ⟨c2, u2, e2, rfl⟩ := h2
  rw [hc] at e1 e2
  have e1' : c1 = x.cps.getD 0 0 := (Option.some.inj e1).symm
  have e2' : c2 = x.cps.getD 1 0 := (Option.some.inj e2).symm
  subst e1' e2'
  rw [hacc]
  have hS : StrsAre [Value.str ⟨#[x.cps.getD 0 0]⟩ u1, Value.str ⟨#[x.cps.getD 1 0]⟩ u2] [sg x 0, sg x 1] := .cons _ _ (.cons _ _ .nil)
  refine wpAny_bind (wpAny_newList ?_ (show (2 : Nat) ≤ sizeLine by decide))
  have hoL : (s'.heap.push { cls := .type "list", data := .seq [Value.str ⟨#[x.cps.getD 0 0]⟩ u1, Value.str ⟨#[x.cps.getD 1 0]⟩ u2].toArray }).get? s'.heap.objs.size = some (seqObj "list" [Value.str ⟨#[x.cps.getD 0 0]⟩ u1, Value.str ⟨#[x.cps.getD 1 0]⟩ u2].toArray 0) := Heap.get?_push_size _ rfl
  refine wpAny_bind (wpAny_holding (wpAny_call_entry slot_list_sort ⟨_, hoL, rfl⟩ entry_list_sort (list_sort_treeK strKind_oneLt hoL hS.keysOf (fun v₁ v₂ rest e => keyKind_strs (by rw [← e]; exact hS)) (show (2 : Nat) < 64 by decide) fun st' a1 a2 => ⟨_, rfl, ?_⟩) (args_list_sort _)))
  obtain ⟨ss', b1, b2, b3⟩ := sorted_out_str hS a1 a2
  have hss : sortL x = ss' := by
    rcases perm_two b2 with e | e <;> subst e
    · exact hA b3
    · exact hB b3
  refine wpAny_pure ⟨_, rfl, ?_⟩
  have keep : ∀ (out : Array Value) b o, s'.heap.get? b = some o → (sortedHeap (s'.heap.push { cls := .type "list", data := .seq [Value.str ⟨#[x.cps.getD 0 0]⟩ u1, Value.str ⟨#[x.cps.getD 1 0]⟩ u2].toArray }) s'.heap.objs.size [Value.str ⟨#[x.cps.getD 0 0]⟩ u1, Value.str ⟨#[x.cps.getD 1 0]⟩ u2] out).get? b = some o := fun out b o hb => by
    have hlt := Heap.lt_size hb
    rw [sortedHeap_old (Nat.ne_of_lt hlt) (by rw [Heap.size_push]; exact Nat.lt_succ_of_lt hlt)]
    exact Heap.get?_push_of_some _ hb
  obtain ⟨e, he⟩ := sortedHeap_at (out := (arrOf st').map (·.2)) hoL
  refine hQ _ _ (y1.trans (.mkh (.of (keep _)))) ?_
  simp only [Rd]
  refine ⟨_, _, ((arrOf st').map (·.2)).toList, rfl, exc_of (st.sh y1).fresh he, ⟨e, by rw [Array.toArray_toList]⟩, ?_⟩
  rw [hss]
  exact rdl_strs b1
end Mine
end
section
open PySem PySem.Spec PySem.Calls PyProof.Rows PySem.W
namespace Mine
variable {p : Program} {w : World} {K : Frag} {n : Nat} {env : Env} {σ : Store} {N N' : Store → Prop} {R : D → Prop} {rest : List Stmt}

noncomputable def inL (wl : List (Str × Str)) (q : Str) : Bool := (wl.lookup q).isSome
noncomputable def wayL (wl : List (Str × Str)) (q : Str) : Str := (wl.lookup q).getD ""
noncomputable def cut2 (v : Str) : Str := strCut v none (some 2)
noncomputable def inRing (wl : List (Str × Str)) (t q : Str) : Bool := inL wl q && (strIn q (wayL wl (sg t 0)) != strIn q (wayL wl (sg t 1)))
noncomputable def ringOf (wl : List (Str × Str)) (t : Str) : List Str := (pts3.filter (inRing wl t)).map fun q => tieOf (cut2 (wayL wl q))
noncomputable def staysL (row : List Str) (wl : List (Str × Str)) (t : Str) : Bool :=
  if !inL wl (sg t 0) || !inL wl (sg t 1) then !inL wl (sg t 0) && !inL wl (sg t 1)
  else !decide (t ∈ ringOf wl t) && decide (maxI ((ringOf wl t).map fun k => ((row.idxOf k : Nat) : Int)) < row.idxOf t)
/-- the ways are fit -/
structure GoodW (row : List Str) (wl : List (Str × Str)) (t : Str) : Prop where
  tie : t ∈ ties
  mem : t ∈ row
  len : ∀ z ∈ wl, z.2.length ≤ 1000
  two : ∀ z ∈ wl, z.1 ∈ pts3 → cut2 z.2 ∈ twos
  ring : inL wl (sg t 0) = true → inL wl (sg t 1) = true → ∀ k ∈ ringOf wl t, k ∈ row
  ne : inL wl (sg t 0) = true → inL wl (sg t 1) = true → ringOf wl t ≠ []
theorem inL_some {wl : List (Str × Str)} {q : Str} (h : inL wl q = true) : wl.lookup q = some (wayL wl q) := by
  unfold inL at h; unfold wayL
  obtain ⟨v, hv⟩ := Option.isSome_iff_exists.mp h
  rw [hv]; rfl
theorem two_join : ∀ x ∈ twos, (((sortL x).map (·.length)).sum + (sortL x).length ≤ 100) ∧ (strCut x none (some 2) = x) := by decide +kernel
theorem cut2_len : ∀ x ∈ twos, x.length ≤ 1000 := by decide +kernel
theorem pts_signs : signs ("bcd" : Str) = pts3.map .str := by
  rw [signs, pts3]; rfl

set_option maxHeartbeats 4000000 in
theorem stays_fn (kx : KX K) {row : List Str} {wl : List (Str × Str)} {t : Str} (g : GoodW row wl t) (hlen : row.length ≤ 6) :
    Fn p w K (n + 1) 182 [.list (row.map .str), .dict (toK .str wl), .str t] (.bool (staysL row wl t)) := by
  refine Fn.intro (names := ["row", "ways", "tie"]) (kx.f (fd := fStays) 8) rfl rfl rfl rfl rfl rfl rfl ?_ rfl (by decide) (by decide) (by decide) (by decide) fun L => ?_
  · intro vs h; match vs, h with
    | [a, b, c], _ => rfl
  have hz6 : ∀ {m : Nat}, m ≤ 1000 → m ≤ sizeLine := fun h => Nat.le_trans h (by decide)
  generalize hS : (["row", "ways", "tie"] : List Str).zip ([D.list (row.map .str), .dict (toK .str wl), .str t].map Ent.val) = S
  have s1 : S.lookup ("row" : Str) = some (.val (.list (row.map .str))) := hS ▸ rfl
  have s2 : S.lookup ("ways" : Str) = some (.val (.dict (toK .str wl))) := hS ▸ rfl
  have s3 : S.lookup ("tie" : Str) = some (.val (.str t)) := hS ▸ rfl
  have e0 : ∀ {T : Store} {q1 q2 q3 : Pos} {k : Nat}, T.lookup ("tie" : Str) = some (.val (.str t)) → Ev p w K n (callEnvC fStays L 182) T (.Subscript (.Name "tie" q1) (.Constant (.int 0) k q2) q3) (.str (sg t 0)) := fun h => Ev.sign0 g.tie (Ev.name h) .int fun _ _ => rfl
  have e1 : ∀ {T : Store} {q1 q2 q3 : Pos} {k : Nat}, T.lookup ("tie" : Str) = some (.val (.str t)) → Ev p w K n (callEnvC fStays L 182) T (.Subscript (.Name "tie" q1) (.Constant (.int 1) k q2) q3) (.str (sg t 1)) := fun h => Ev.sign1 g.tie (Ev.name h) .int fun _ _ => rfl
  have notB : ∀ {T : Store} {e : Expr} {q : Str} {q1 q2 : Pos}, Ev p w K n (callEnvC fStays L 182) T e (.str q) → T.lookup ("ways" : Str) = some (.val (.dict (toK .str wl))) → EvB p w K n (callEnvC fStays L 182) T (.Compare e [.NotIn] [.Name "ways" q1] q2) (!inL wl q) := fun he h =>
    EvB.to (by rw [getK_some]; rfl) (EvB.cmp (Ev.v he) (Ev.v (Ev.name h)) (CmpOk.notInD (ks := toK .str wl)) rfl)
  have notE : ∀ {T : Store} {e : Expr} {q : Str} {q1 q2 : Pos}, Ev p w K n (callEnvC fStays L 182) T e (.str q) → T.lookup ("ways" : Str) = some (.val (.dict (toK .str wl))) → Ev p w K n (callEnvC fStays L 182) T (.Compare e [.NotIn] [.Name "ways" q1] q2) (.bool (!inL wl q)) := fun he h =>
    Ev.to (by rw [getK_some]; rfl) (Ev.cmp (Ev.v he) (Ev.v (Ev.name h)) (CmpOk.notInD (ks := toK .str wl)) rfl)
  refine X.ite (b := !inL wl (sg t 0) || (!inL wl (sg t 1) || false)) (N' := fun T => T = S ∧ inL wl (sg t 0) = true ∧ inL wl (sg t 1) = true) (EvB.ops (EvBs.orC (notB (e0 s3) s2) fun _ => EvBs.orC (notB (e1 s3) s2) fun _ => EvBs.orN)) (fun hb => ?_) (fun hb => X.nil ⟨rfl, ?_⟩) ?_
  · refine X.ret (Ev.and2 (notE (e0 s3) s2) fun _ => notE (e1 s3) s2) ?_
    rw [Bool.or_false] at hb
    rw [staysL, if_pos hb]
  · revert hb; cases inL wl (sg t 0) <;> cases inL wl (sg t 1) <;> simp
  · rintro T ⟨rfl, i0, i1⟩
    have hst : staysL row wl t = (!decide (t ∈ ringOf wl t) && decide (maxI ((ringOf wl t).map fun k => ((row.idxOf k : Nat) : Int)) < row.idxOf t)) := by
      rw [staysL, if_neg (by rw [i0, i1]; decide)]
    rw [hst]
    refine Stp.newL (ds := []) EvLs.nil (.inl rfl) (by decide) (by decide) rfl fun a => ?_
    refine X.for (tp := false) (ds := pts3.map .str) (f := fun d σ => put σ "point" (.val d)) (fun i σ' => ∃ a, σ'.lookup ("ring" : Str) = some (.lst a ((((pts3.take i).filter (inRing wl t)).map fun q => tieOf (cut2 (wayL wl q))).map .str)) ∧ σ'.lookup ("row" : Str) = some (.val (.list (row.map .str))) ∧
      σ'.lookup ("ways" : Str) = some (.val (.dict (toK .str wl))) ∧ σ'.lookup ("tie" : Str) = some (.val (.str t))) (pts_signs ▸ EvW.str .str (by decide +kernel)) (cnOk (by decide)) (fun d _ => Asg.name (.inl rfl) (by decide)) .name ⟨a, lkE, lkN s1, lkN s2, lkN s3⟩ ?_ ?_
    · rintro i d σ' hd ⟨a, h1, h2, h3, h4⟩
      rw [List.getElem?_map] at hd
      cases hg : pts3[i]? with
      | none => rw [hg] at hd; cases hd
      | some q =>
      rw [hg] at hd
      obtain rfl : d = .str q := (Option.some.inj hd).symm
      have hqm : q ∈ pts3 := List.mem_of_getElem? hg
      have htk : pts3.take (i + 1) = pts3.take i ++ [q] := by rw [List.take_add_one, hg]; rfl
      generalize hU : put σ' "point" (.val (.str q)) = U
      have u1 : U.lookup ("ring" : Str) = some (.lst a ((((pts3.take i).filter (inRing wl t)).map fun q => tieOf (cut2 (wayL wl q))).map .str)) := hU ▸ lkN h1
      have u2 : U.lookup ("row" : Str) = some (.val (.list (row.map .str))) := hU ▸ lkN h2
      have u3 : U.lookup ("ways" : Str) = some (.val (.dict (toK .str wl))) := hU ▸ lkN h3
      have u4 : U.lookup ("tie" : Str) = some (.val (.str t)) := hU ▸ lkN h4
      have u5 : U.lookup ("point" : Str) = some (.val (.str q)) := hU ▸ lkE
      have way : ∀ {e : Expr} {x : Str} {q1 q2 : Pos}, Ev p w K n (callEnvC fStays L 182) U e (.str x) → inL wl x = true → (∀ o i, subscripted e false o i = operate [o, i] (getItem o i)) → Ev p w K n (callEnvC fStays L 182) U (.Subscript (.Name "ways" q1) e q2) (.str (wayL wl x)) := fun he hx hs =>
        Ev.sub (Ev.v (Ev.name u3)) (Ev.v he) (IdxOk.dict (by rw [getK_toK, inL_some hx]; rfl)) hs
      refine X.ite (b := inL wl q && ((strIn q (wayL wl (sg t 0)) != strIn q (wayL wl (sg t 1))) && true)) (N' := fun σ' => ∃ a, σ'.lookup ("ring" : Str) = some (.lst a ((((pts3.take (i + 1)).filter (inRing wl t)).map fun q => tieOf (cut2 (wayL wl q))).map .str)) ∧ σ'.lookup ("row" : Str) = some (.val (.list (row.map .str))) ∧
        σ'.lookup ("ways" : Str) = some (.val (.dict (toK .str wl))) ∧ σ'.lookup ("tie" : Str) = some (.val (.str t)))
        (EvB.ops (EvBs.andC (EvB.to (by rw [getK_some]; rfl) (EvB.cmp (Ev.v (Ev.name u5)) (Ev.v (Ev.name u3)) (CmpOk.inD (ks := toK .str wl)) rfl)) fun _ => EvBs.andC (EvB.cmp (Ev.v (Ev.cmp (Ev.v (Ev.name u5)) (Ev.v (way (e0 u4) i0 fun _ _ => rfl)) .inS rfl)) (Ev.v (Ev.cmp (Ev.v (Ev.name u5)) (Ev.v (way (e1 u4) i1 fun _ _ => rfl)) .inS rfl)) .neB rfl) fun _ => EvBs.andN))
        (fun hb => ?_) (fun hb => X.nil ⟨a, ?_, u2, u3, u4⟩) fun σ'' h => X.nil h
      · rw [Bool.and_true] at hb
        have hr : inRing wl t q = true := hb
        have hi : inL wl q = true := by rw [Bool.and_eq_true] at hb; exact hb.1
        have hm := mem_of_lookup (inL_some hi)
        have h2 : cut2 (wayL wl q) ∈ twos := g.two (q, wayL wl q) hm hqm
        have hl : (wayL wl q).length ≤ 1000 := g.len (q, wayL wl q) hm
        have hj := two_join _ h2
        refine X.step (Stp.append (d := .str (tieOf (cut2 (wayL wl q)))) u1 (Ev.methS F.slot_str_join F.type_str_join .str (EvLs.one (Ev.call1 (EvG.b kx 9) .bi (Ev.v (Ev.cutS (way (Ev.name u5) hi fun _ _ => rfl) .none (.some .int) (hz6 hl) (hz6 (cut2_len _ h2)))) (FunV.sortedS h2))) (MethV.join (ys := sortL (cut2 (wayL wl q))) (by decide) (by omega))) ?_) (X.nil ⟨a, ?_, lkN u2, lkN u3, lkN u4⟩)
        · rw [List.length_map, List.length_map]
          have h5 := List.length_filter_le (inRing wl t) (pts3.take i)
          have h6 : (pts3.take i).length ≤ 3 := by rw [List.length_take]; exact Nat.min_le_right _ _
          exact hz6 (by omega)
        · rw [lkE, htk, List.filter_append, List.map_append, List.map_append]
          simp [hr]
      · rw [Bool.and_true] at hb
        have hr : inRing wl t q = false := hb
        rw [u1, htk, List.filter_append]
        simp [hr]
    · rintro σ' ⟨a, h1, h2, h3, h4⟩
      have hR : ((((pts3.take (pts3.map D.str).length).filter (inRing wl t)).map fun q => tieOf (cut2 (wayL wl q)))) = ringOf wl t := by
        rw [List.length_map, List.take_length]; rfl
      rw [hR] at h1
      refine X.kd fun hkd => X.freeze h1 rfl hkd ?_
      generalize hU : put σ' "ring" (.val (.list ((ringOf wl t).map .str))) = U
      have u1 : U.lookup ("ring" : Str) = some (.val (.list ((ringOf wl t).map .str))) := hU ▸ lkE
      have u2 : U.lookup ("row" : Str) = some (.val (.list (row.map .str))) := hU ▸ lkN h2
      have u4 : U.lookup ("tie" : Str) = some (.val (.str t)) := hU ▸ lkN h4
      have hrl : (ringOf wl t).length ≤ 3 := by
        unfold ringOf
        rw [List.length_map]
        exact List.length_filter_le _ _
      refine X.ret (Ev.and2 (a := !decide (t ∈ ringOf wl t)) (Ev.cmp (Ev.v (Ev.name u4)) (Ev.v (Ev.name u1)) (CmpOk.notInL rfl) rfl) fun hb => Ev.cmp (Ev.v (Ev.call1 (EvG.b kx 10) .bi (Ev.v (Ev.to ?_ (Ev.comp (xs := ringOf wl t) (enc := .str) (cl := [("row", L + 1)]) (caps := ["row"]) (keep := fun _ => true) (g := fun k => .int ((row.idxOf k : Nat) : Int)) (binds := fun k => [("kept", .str k)]) (tp := false)
        { kind := rfl, names := by decide, clos := rfl, cap := ?_, asg := fun C k hk => AsgC.name rfl rfl (by decide), tests := fun C k hk => EvT.nil, elt := ?_, size := hz6 (by omega) } (EvW.list (Ev.name u1)) .name))) (FunV.maxL (ns := (ringOf wl t).map fun k => ((row.idxOf k : Nat) : Int)) ?_)))
        (Ev.v (Ev.methL F.slot_list_index F.type_list_index (Ev.v (Ev.name u2)) (EvLs.one (Ev.name u4)) (.index g.mem (by omega)))) .ltI rfl) rfl
      · rw [filter_tt, List.map_map]; rfl
      · intro C x hx
        obtain rfl : x = ("row" : Str) := by simpa using hx
        exact ⟨L + 1, .inl rfl, rfl, .inl rfl, rfl⟩
      · intro C k hk _
        exact Ev.methL F.slot_list_index F.type_list_index (Ev.v (Ev.name (lkC u2 rfl (by decide)))) (EvLs.one (Ev.name lkB)) (.index (g.ring i0 i1 k hk) (by omega))
      · rw [List.length_map]
        exact List.length_pos_iff.mpr (g.ne i0 i1)
end Mine
end
section
open PySem PySem.Spec PySem.Calls PyProof.Rows PySem.W
namespace Mine
variable {p : Program} {w : World} {K : Frag} {n : Nat} {env : Env} {σ : Store} {N N' : Store → Prop} {R : D → Prop} {rest : List Stmt}

/-- what the written heap bears of the class of piles -/
structure KC (K : Frag) : Prop where
  obj : ∃ oc od cd sl, K.lookup 125 = some ⟨oc, od, .cls cd, sl⟩ ∧ cd.abstract = false ∧ cd.hasDel = false ∧ cd.mro = [.ref 125, .type "list", .type "object"] ∧ (sl.toList[4]?).join = some (.builtin "list.__new__") ∧ cd.hasDict = true
  call : specialIn K (.ref 125) "__call__" = some (some (.builtin "type.__call__"))
  typ : instIn K (.ref 125) (.type "type") = some true
  ga : findIn K (.ref 125) "__getattribute__" = some (some (.builtin "list.__getattribute__"))
  noga : findIn K (.ref 125) "__getattr__" = some none
  init : findIn K (.ref 125) "__init__" = some (some (.ref 62))
  push : findIn K (.ref 125) "push" = some (some (.ref 69))
  pop : findIn K (.ref 125) "pop" = some (some (.ref 85))
  len : findIn K (.ref 125) "__len__" = some (some (.ref 92))
  str : findIn K (.ref 125) "__str__" = some (some (.ref 99))
  part : findIn K (.ref 125) "part_count" = some (some (.ref 122))
  append : findIn K (.ref 125) "append" = some (some (.builtin "list.append"))
  sa : findIn K (.ref 125) "__setattr__" = some (some (.builtin "object.__setattr__"))
  taker : takerIn K 125 "_initial_size" = some none
  opq : nsIn K cStatics "thirdparty.any" = some none

structure MakesL (M : Model) (h : Heap) : Prop where
  obj : ∃ oc od cd sl, h.get? 125 = some ⟨oc, od, .cls cd, sl⟩ ∧ cd.abstract = false ∧ cd.hasDel = false ∧ cd.mro = [.ref 125, .type "list", .type "object"]
  made : Looks M h (Bind.madeBy (.ref 125)) (some "list.__new__")
  base : Looks M h (Bind.staticBase (.ref 125)) (.ref 125)
  self : Looks M h (isSubtype (.ref 125) (.ref 125)) true
  top : Looks M h (isSubtype (.ref 125) (.type "list")) true
  call : Looks M h (specialOf (.ref 125) "__call__") (some (.builtin "type.__call__"))
  typ : Looks M h (isInstance (.ref 125) (.type "type")) true
theorem makesL {M : Model} {h : Heap} (kc : KC K) (X : K.In h) : MakesL M h := by
  obtain ⟨oc, od, cd, sl, ho, e1, e2, hl, e3, _⟩ := kc.obj
  have hc : clsIn K 125 = some cd := by unfold clsIn; rw [ho]
  have hm : Looks M h (mroOf (.ref 125)) cd.mro := (looks_clsIn X hc).andThen .now
  have made : Looks M h (Bind.madeBy (.ref 125)) (some "list.__new__") := by
    intro A Q E s k q
    unfold Bind.madeBy
    refine wpAny_bind (hm A _ E s k ?_)
    rw [hl, List.forIn_cons]
    refine wpAny_bind (wpAny_bind (wpAny_bind (wpAny_bind (wpAny_loadPart (k _ _ (X _ _ ho)) (wpAny_pure ?_)))))
    dsimp only
    rw [← Array.getElem?_toList, e3]
    exact wpAny_pure (wpAny_pure (wpAny_pure q))
  refine ⟨⟨oc, od, cd, sl, X _ _ ho, e1, e2, hl⟩, made, ?_, looks_mroIn X ?_, looks_mroIn X ?_, looks_specialIn X kc.call, looks_instIn X kc.typ⟩
  · intro A Q E s k q
    unfold Bind.staticBase
    refine wpAny_bind (hm A _ E s k ?_)
    rw [hl, List.forIn_cons]
    exact wpAny_bind (wpAny_bind (wpAny_bind (made A _ E s k (wpAny_pure (wpAny_pure (wpAny_pure q))))))
  · unfold mroIn; rw [hc, Option.bind_some, hl]; rfl
  · unfold mroIn; rw [hc, Option.bind_some, hl]; rfl

noncomputable abbrev pilObj (dx : Addr) (xs : Array Value) (e : Nat) : Obj := { cls := .ref 125, dict := some dx, data := .seq xs e }
namespace F
theorem kindNew : builtinKind "list.__new__" = some .builtinFn := by decide +kernel
theorem splitNew : splitId "list.__new__" = some ("list", "__new__") := by decide +kernel
theorem argsNew0 : argsOk "list.__new__" ⟨[.ref 125], []⟩ := by unfold argsOk; kernel_rfl
theorem argsNew1 (a : Value) : argsOk "list.__new__" ⟨[.ref 125, a], []⟩ := by unfold argsOk; kernel_rfl
end F
section
variable {A : Around} {h : Heap} {g : Array GenState} {d : Drawn} {t : Nat} {os : OsState} {R : Result → Shared → Prop}
theorem newPil {vs : List Value} (Y : MakesL (model p w) h) (hargs : argsOk "list.__new__" ⟨.ref 125 :: vs, []⟩) (hq : R (.ok (.ret (.ref (h.objs.size + 1)))) ⟨(h.push emptyDict).push (pilObj h.objs.size #[] 0), g, d, t, os⟩) :
    codeAny (model p w) A (.call (.builtin "list.__new__") ⟨.ref 125 :: vs, []⟩) R ⟨h, g, d, t, os⟩ := by
  obtain ⟨⟨oc, od, cd, sl, hC, e1, e2, e4⟩, made, base, self, top, call, typ⟩ := Y
  refine codeAny_of_tree ?_
  show wpAny _ A.in1 (do checkBuiltinCall "list.__new__" ⟨.ref 125 :: vs, []⟩; again (.builtin "list.__new__" ⟨.ref 125 :: vs, []⟩)) _ _ _
  have typ' : Looks (model p w) h (isType (.ref 125)) true := (Looks.ld hC).andThen (Looks.of_pure rfl)
  refine wpAny_bind ?_
  simp only [checkBuiltinCall, F.kindNew, F.splitNew]
  repeat (first | simp only [bne_self_eq_false, Bool.false_eq_true, if_false, if_true, beq_self_eq_true, Bool.not_true] | lk)
  refine ⟨plainId_quiet F.plain_list_new _, codeAny_builtin_stack F.entry_list_new rfl fun q st => ?_⟩
  rw [Around.under_plainId F.plain_list_new _]
  simp only [owner_list_new]
  have fin : wpAny (model p w) A.in1 (do
      let .ref d ← newDict | unsupported "internal:list.__new__"
      ret (← newObj (.ref 125) (.seq #[]) (some d))) (fun fin s' => match fin with | .done f => R (.ok f) s' | .again c' => c'.quiet = true ∧ codeAny (model p w) A c' R s') (fun e s' => R (.error e) s') ⟨h, g, d, t, os⟩ := by
    unfold newDict newObj
    refine wpAny_bind (wpAny_bind (wpAny_alloc (wpAny_pure ?_)))
    show wpAny _ _ (newObjAsIs _ _ _ >>= _) _ _ _
    unfold newObjAsIs classHasDel
    refine wpAny_bind (wpAny_bind (wpAny_alloc (wpAny_bind (wpAny_bind (wpAny_load (Heap.get?_push_of_some _ (Heap.get?_push_of_some _ hC)) (wpAny_pure ?_))))))
    rw [e2]
    refine wpAny_pure (wpAny_pure ?_)
    show R _ _
    rw [Heap.size_push]
    exact hq
  repeat (first | simp only [Bool.not_true, Bool.false_eq_true, if_false] | exact fin | lk)

/-- a pile is made: its __init__ comes next -/
theorem makePil {vs : List Value} (kc : KC K) (X : K.In h) (hf : typeIn K (.ref 62) = some (.type "function")) (hargs : argsOk "list.__new__" ⟨.ref 125 :: vs, []⟩)
    (hq : codeAny (model p w) (A.under (.builtin "type.__call__" ⟨.ref 125 :: vs, []⟩)) (.call (.ref 62) ⟨.ref (h.objs.size + 1) :: vs, []⟩) (InitBack (h.objs.size + 1) R) ⟨(h.push emptyDict).push (pilObj h.objs.size #[] 0), g, d, t, os⟩) :
    codeAny (model p w) A (.call (.ref 125) ⟨vs, []⟩) R ⟨h, g, d, t, os⟩ := by
  have Y := makesL (M := model p w) kc X
  have Y' := Y
  have hi : Looks (model p w) h (typeLookup (.ref 125) "__init__") (some (.ref 62)) := looks_findIn X kc.init
  obtain ⟨⟨oc, od, cd, sl, hC, e1, e2, e4⟩, made, base, self, top, call, typ⟩ := Y
  refine codeAny_of_tree ?_
  show wpAny _ _ (callAny (.ref 125) _) _ _ _
  refine nd_load hC ?_
  show wpAny _ _ (callAny.viaDunder (.ref 125) _) _ _ _
  unfold callAny.viaDunder
  refine wpAny_bind (call.at ?_)
  dsimp only
  rw [tc_bind]
  refine wpAny_bind (wpAny_pure (wpAny_bind (wpAny_pure ?_)))
  refine wpAny_pure (a := Fin.again (.call (.builtin "type.__call__") ⟨.ref 125 :: vs, []⟩)) (And.intro rfl ?_)
  refine codeAny_call_builtin_at (Code.quiet_builtin _ (by decide +kernel)) entry_typeCall (check_slot tc_kind tc_split typ (tc_args _ _ _) ?_)
  unfold Builtin.«type.__call__»
  have hm : Looks (model p w) h (mroOf (.ref 125)) cd.mro := ((Looks.ld (part := none) hC).andThen .now).andThen .now
  have e4' : cd.mro.isEmpty = false := by rw [e4]; rfl
  repeat (first | simp only [e4', Bool.false_eq_true, if_false] | with_reducible refine wpAny_call ?_ | lk)
  refine newPil Y' hargs ?_
  have k : ∀ b o, h.get? b = some o → ((h.push emptyDict).push (pilObj h.objs.size #[] 0)).get? b = some o := fun b o e => Heap.get?_push_of_some _ (Heap.get?_push_of_some _ e)
  have hx : ((h.push emptyDict).push (pilObj h.objs.size #[] 0)).get? (h.objs.size + 1) = some (pilObj h.objs.size #[] 0) := by
    have := Heap.get?_push_size (h.push emptyDict) (o := pilObj h.objs.size #[] 0) rfl
    rwa [Heap.size_push] at this
  have t1 : Looks (model p w) ((h.push emptyDict).push (pilObj h.objs.size #[] 0)) (typeOf (.ref (h.objs.size + 1))) (.ref 125) := (Looks.ld hx).andThen .now
  have s1 := self.keeps k
  have i1 := hi.keeps k
  have b1 := (bind_fn (M := model p w) X (.ref (h.objs.size + 1)) hf).keeps k
  unfold isInstance callSpecial? specialOf
  repeat (first | with_reducible refine wpAny_call ?_ | lk)
  refine codeAny_mono hq fun r s' z => ?_
  rcases r with e | (v | _ | _ | _) <;> first | exact z | exact z.elim | skip
  obtain ⟨rfl, z⟩ := z
  exact wpAny_pure (wpAny_pure z)
end
end Mine
end
section
open PySem PySem.Spec PySem.Calls PyProof.Rows PySem.W
namespace Mine
variable {p : Program} {w : World} {K : Frag} {n : Nat} {env : Env} {σ : Store} {N N' : Store → Prop} {R : D → Prop} {rest : List Stmt}

/-- a method of lists, as super() gives it -/
structure SupF (name : Str) (id dT gid bT : String) : Prop where
  own : classOwn (.type "list") name = pure (some (.builtin id))
  ty : typeOf (.builtin id) = pure (.type dT)
  get : typeLookup (.type dT) "__get__" = pure (some (.builtin gid))
  run : ∀ (prog : Program) (w : World) (A : Around) (E : Value → Shared → Prop) (s : Shared) (x : Addr) (ox : Obj) (Q : Value → Shared → Prop), s.heap.get? x = some ox → ox.cls = .ref 125 → Looks (model prog w) s.heap (isSubtype (.ref 125) (.type "list")) true →
    Q (.ref s.heap.objs.size) { s with heap := s.heap.push { cls := .type bT, data := .fields #[.builtin id, .ref x] } } → wpAny (model prog w) A (call (.builtin gid) [.builtin id, .ref x, .ref 125]) Q E s
  nocls : (name == ("__class__" : Str)) = false
  bt : (Value.type bT == .type "method" || Value.type bT == .type "builtin_function_or_method" || Value.type bT == .type "method-wrapper") = true
  bt' : (Value.type bT != .type "method") = true

namespace F
theorem own_init : classOwn (.type "list") "__init__" = pure (some (.builtin "list.__init__")) := by kernel_rfl
theorem own_len : classOwn (.type "list") "__len__" = pure (some (.builtin "list.__len__")) := by kernel_rfl
theorem own_pop : classOwn (.type "list") "pop" = pure (some (.builtin "list.pop")) := by kernel_rfl
theorem ty_init : typeOf (.builtin "list.__init__") = pure (.type "wrapper_descriptor") := by show builtinType _ = _; rw [builtinType_eq_fast]; kernel_rfl
theorem ty_len : typeOf (.builtin "list.__len__") = pure (.type "wrapper_descriptor") := by show builtinType _ = _; rw [builtinType_eq_fast]; kernel_rfl
theorem ty_pop : typeOf (.builtin "list.pop") = pure (.type "method_descriptor") := by show builtinType _ = _; rw [builtinType_eq_fast]; kernel_rfl
theorem slot_wget : Slot "wrapper_descriptor" "__get__" "wrapper_descriptor.__get__" := .of (owner := "wrapper_descriptor") (n := "__get__") (by rw [typeLookup_type, builtinLookup_eq_fast]; kernel_rfl) (by decide +kernel) (by decide +kernel) (by decide +kernel)
  (by first | exact .inl (by decide +kernel) | exact .inr (by decide +kernel)) (by rw [isSubtype_type]; kernel_rfl)
theorem slot_mget : Slot "method_descriptor" "__get__" "method_descriptor.__get__" := .of (owner := "method_descriptor") (n := "__get__") (by rw [typeLookup_type, builtinLookup_eq_fast]; kernel_rfl) (by decide +kernel) (by decide +kernel) (by decide +kernel)
  (by first | exact .inl (by decide +kernel) | exact .inr (by decide +kernel)) (by rw [isSubtype_type]; kernel_rfl)
theorem entry_wget : entryFor table "wrapper_descriptor.__get__" = some Builtin.«wrapper_descriptor.__get__» := entryFor_of_tree (by kernel_rfl)
theorem entry_mget : entryFor table "method_descriptor.__get__" = some Builtin.«method_descriptor.__get__» := entryFor_of_tree (by kernel_rfl)
theorem args_wget (a b c : Value) : argsOk "wrapper_descriptor.__get__" ⟨[a, b, c], []⟩ := by unfold argsOk; kernel_rfl
theorem args_mget (a b c : Value) : argsOk "method_descriptor.__get__" ⟨[a, b, c], []⟩ := by unfold argsOk; kernel_rfl
theorem owner_init : ".".intercalate ("list.__init__".cutAt '.').dropLast = "list" := by decide +kernel
theorem owner_len : ".".intercalate ("list.__len__".cutAt '.').dropLast = "list" := by decide +kernel
theorem owner_pop : ".".intercalate ("list.pop".cutAt '.').dropLast = "list" := by decide +kernel
theorem told_pop : Manifest.toldItsClass.contains "list.pop" = false := by decide +kernel
end F
theorem typeIs_bi {s : Shared} {id T : String} (h : typeOf (.builtin id) = pure (.type T)) : s.TypeIs (.builtin id) T := by
  unfold Shared.TypeIs
  exact h
end Mine
end
section
open PySem PySem.Spec PySem.Calls PyProof.Rows PySem.W
namespace Mine
variable {p : Program} {w : World} {K : Frag} {n : Nat} {env : Env} {σ : Store} {N N' : Store → Prop} {R : D → Prop} {rest : List Stmt}

theorem sup_init : SupF "__init__" "list.__init__" "wrapper_descriptor" "wrapper_descriptor.__get__" "method-wrapper" where
  own := F.own_init
  ty := F.ty_init
  get := F.slot_wget.lookup
  nocls := by decide
  bt := by decide
  bt' := by decide
  run := fun prog w A E s x ox Q hx hc hI hQ => by
    refine wpAny_call_entry F.slot_wget (typeIs_bi F.ty_init) F.entry_wget ?_ (F.args_wget _ _ _)
    obtain ⟨hp, g, d, tk, os⟩ := s
    unfold Builtin.«wrapper_descriptor.__get__»
    have hide := And.intro trivial hx
    clear hx
    repeat lk
    refine nd_load hide.2 (wpAny_pure (wpAny_pure ?_))
    rw [hc, F.owner_init]
    refine Looks.at hI ?_
    refine wpAny_pure (wpAny_bind (wpAny_newObj_type (hd := by size_fits) (wpAny_pure ⟨_, rfl, hQ⟩)))
theorem sup_len : SupF "__len__" "list.__len__" "wrapper_descriptor" "wrapper_descriptor.__get__" "method-wrapper" where
  own := F.own_len
  ty := F.ty_len
  get := F.slot_wget.lookup
  nocls := by decide
  bt := by decide
  bt' := by decide
  run := fun prog w A E s x ox Q hx hc hI hQ => by
    refine wpAny_call_entry F.slot_wget (typeIs_bi F.ty_len) F.entry_wget ?_ (F.args_wget _ _ _)
    obtain ⟨hp, g, d, tk, os⟩ := s
    unfold Builtin.«wrapper_descriptor.__get__»
    have hide := And.intro trivial hx
    clear hx
    repeat lk
    refine nd_load hide.2 (wpAny_pure (wpAny_pure ?_))
    rw [hc, F.owner_len]
    refine Looks.at hI ?_
    refine wpAny_pure (wpAny_bind (wpAny_newObj_type (hd := by size_fits) (wpAny_pure ⟨_, rfl, hQ⟩)))
theorem sup_pop : SupF "pop" "list.pop" "method_descriptor" "method_descriptor.__get__" "builtin_function_or_method" where
  own := F.own_pop
  ty := F.ty_pop
  get := F.slot_mget.lookup
  nocls := by decide
  bt := by decide
  bt' := by decide
  run := fun prog w A E s x ox Q hx hc hI hQ => by
    refine wpAny_call_entry F.slot_mget (typeIs_bi F.ty_pop) F.entry_mget ?_ (F.args_mget _ _ _)
    obtain ⟨hp, g, d, tk, os⟩ := s
    unfold Builtin.«method_descriptor.__get__»
    have told := F.told_pop
    have hide := And.intro trivial hx
    clear hx
    repeat lk
    refine nd_load hide.2 (wpAny_pure (wpAny_pure ?_))
    rw [hc, F.owner_pop]
    refine Looks.at hI ?_
    refine wpAny_pure (wpAny_bind (wpAny_newObj_type (hd := by size_fits) (wpAny_pure ⟨_, rfl, hQ⟩)))
section
variable {A : Around} {E : Value → Shared → Prop} {h : Heap} {g : Array GenState} {d : Drawn} {t : Nat} {os : OsState}
theorem forIn_super {β : Type} {name : Str} {id : String} {init : β} {body : Value → β → Sem (ForInStep β)} {k : Option Value → Sem (ForInStep β)} {M : Model} {Q : β → Shared → Prop} {c : Value} {l : List Value}
    (hb : ∀ c r, body c r = classOwn c name >>= k) (ho : classOwn c name = pure (some (.builtin id))) (hq : wpAny M A (k (some (.builtin id))) (fun st s' => match st with | .done b => Q b s' | .yield _ => False) E ⟨h, g, d, t, os⟩) :
    wpAny M A (forIn (c :: l) init body) Q E ⟨h, g, d, t, os⟩ := by
  rw [List.forIn_cons, hb, ho]
  refine wpAny_bind (wpAny_bind (wpAny_pure ?_))
  refine wpAny_mono hq (fun st s' hs => ?_) fun _ _ z => z
  cases st with
  | done b => exact wpAny_pure hs
  | yield b => exact hs.elim

/-- super().name, name a built-in of lists -/
theorem super_ga {so x : Addr} {ox : Obj} {name : Str} {id dT gid bT : String} {tk : Tok} {Q : Fin → Shared → Prop} (S : SupF name id dT gid bT)
    (hso : h.get? so = some { cls := .type "super", dict := none, data := .fields #[.ref 125, .ref x, .ref 125], slots := #[] }) (hno : Looks (model p w) h (opaqueClassAbove (.ref 125)) none)
    (hC : Looks (model p w) h (mroOf (.ref 125)) [.ref 125, .type "list", .type "object"]) (hx : h.get? x = some ox) (hc : ox.cls = .ref 125) (hI : Looks (model p w) h (isSubtype (.ref 125) (.type "list")) true) (hxC : x ≠ 125)
    (hq : Q (.done (.ret (.ref h.objs.size))) ⟨h.push { cls := .type bT, data := .fields #[.builtin id, .ref x] }, g, d, t, os⟩) :
    wpAny (model p w) A (Builtin.«super.__getattribute__» ⟨[.ref so, .str name tk], []⟩) Q E ⟨h, g, d, t, os⟩ := by
  have hne : (Value.ref x == Value.ref 125) = false := by simp [hxC]
  have hdt : ({ cls := .type "super", dict := none, data := .fields #[.ref 125, .ref x, .ref 125], slots := #[] } : Obj).data = .fields #[.ref 125, .ref x, .ref 125] := rfl
  have f0 : (#[.ref 125, .ref x, .ref 125] : Array Value)[0]? = some (.ref 125) := rfl
  have f1 : (#[.ref 125, .ref x, .ref 125] : Array Value)[1]? = some (.ref x) := rfl
  have f2 : (#[.ref 125, .ref x, .ref 125] : Array Value)[2]? = some (.ref 125) := rfl
  have hn := S.nocls
  have hl : (([.ref 125, .type "list", .type "object"] : List Value).dropWhile (· != .ref 125)).drop 1 = [.type "list", .type "object"] := by decide
  have hide := And.intro trivial hx
  clear hx
  unfold Builtin.«super.__getattribute__»
  repeat (first
    | (with_reducible refine wpAny_field hso hdt f0 ?_) | (with_reducible refine wpAny_field hso hdt f1 ?_) | (with_reducible refine wpAny_field hso hdt f2 ?_)
    | (with_reducible refine ks_wpAny_notOpaque hno ?_)
    | (with_reducible refine Looks.at hC ?_; rw [hl])
    | (refine forIn_super (fun _ _ => rfl) S.own ?_)
    | (with_reducible refine wpAny_of_eq S.ty ?_) | (with_reducible refine wpAny_of_eq S.get ?_)
    | (with_reducible refine S.run p w _ _ ⟨h, g, d, t, os⟩ x ox _ hide.2 hc hI ?_)
    | (simp only [hn, hne, Bool.or_false, Bool.false_eq_true, if_false])
    | wp_step
    | dsimp only)
  all_goals exact hq

theorem super_method {so x : Addr} {ox : Obj} {name : Str} {id dT gid bT : String} {pl : Sem Bool} {Q : Value × List Value → Shared → Prop} (S : SupF name id dT gid bT)
    (hso : h.get? so = some { cls := .type "super", dict := none, data := .fields #[.ref 125, .ref x, .ref 125], slots := #[] }) (hno : Looks (model p w) h (opaqueClassAbove (.ref 125)) none)
    (hC : Looks (model p w) h (mroOf (.ref 125)) [.ref 125, .type "list", .type "object"]) (hx : h.get? x = some ox) (hc : ox.cls = .ref 125) (hI : Looks (model p w) h (isSubtype (.ref 125) (.type "list")) true) (hxC : x ≠ 125)
    (hq : Q (.ref h.objs.size, []) ⟨h.push { cls := .type bT, data := .fields #[.builtin id, .ref x] }, g, d, t + 1, os⟩) :
    wpAny (model p w) A (getMethod (.ref so) name pl) Q E ⟨h, g, d, t, os⟩ := by
  have hlk := PySem.F.ks_slot_super_ga.lookup
  have hcan := PySem.F.ks_canon_super_ga
  have hT : ∀ t', (⟨h, g, d, t', os⟩ : Shared).TypeIs (.ref so) "super" := fun _ => ⟨_, hso, rfl⟩
  unfold getMethod
  refine wpAny_bind (wpAny_specialOf (hT _) hlk ?_)
  show wpAny _ _ (if (Manifest.canonical "super.__getattribute__" != "object.__getattribute__") = true then _ else _) _ _ _
  rw [if_pos hcan]
  unfold getAttr getAttrBy
  refine wpAny_bind (wpAny_bind (wpAny_mkText (wpAny_holding (wpAny_bind (wpAny_typeOf (hT _) (wpAny_bind (wpAny_of_eq hlk ?_)))))))
  show wpAny _ _ (getAttrByItsOwn (.ref so) (.str name t) (.type "super") (.builtin "super.__getattribute__") true false) _ _ _
  unfold getAttrByItsOwn hookBefore callGetattribute boundAndCalled
  refine wpAny_bind (wpAny_of_eq (show (if onTheHeap (.type "super") then typeLookup (.type "super") "__getattr__" else pure none) = pure none from rfl) ?_)
  refine wpAny_bind (wpAny_attempt (wpAny_holding ?_))
  show wpAny _ _ (bindSpecial (.builtin "super.__getattribute__") (.ref so) >>= _) _ _ _
  refine wpAny_bind (wpAny_of_eq (PySem.F.ks_slot_super_ga.bind _) ?_)
  refine wpAny_mono (Q := fun v s' => v = .ref h.objs.size ∧ s' = ⟨h.push { cls := .type bT, data := .fields #[.builtin id, .ref x] }, g, d, t + 1, os⟩) (E := fun _ _ => False)
    (wpAny_call_entry PySem.F.ks_slot_super_ga (hT _) PySem.F.ks_entry_super_ga (super_ga S hso hno hC hx hc hI hxC ⟨_, rfl, rfl, rfl⟩) (PySem.F.ks_gaArgs_super _ _)) (fun v s' hv => ?_) fun _ _ z => z.elim
  obtain ⟨rfl, rfl⟩ := hv
  exact wpAny_pure (wpAny_pure hq)

/-- a bound built-in is called -/
theorem bound_call {b : Addr} {id bT : String} {x : Value} {args : List Value} {R : Result → Shared → Prop} (hb : h.get? b = some { cls := .type bT, data := .fields #[.builtin id, x] })
    (hbt : (Value.type bT == .type "method" || Value.type bT == .type "builtin_function_or_method" || Value.type bT == .type "method-wrapper") = true) (hbt' : (Value.type bT != .type "method") = true)
    (hck : ∀ (A : Around) (E : Value → Shared → Prop) (Q : Unit → Shared → Prop), Q () ⟨h, g, d, t, os⟩ → wpAny (model p w) A (checkBoundCall id ⟨x :: args, []⟩) Q E ⟨h, g, d, t, os⟩) (hqt : (Code.builtin id ⟨x :: args, []⟩).quiet = true)
    (hq : codeAny (model p w) A (.builtin id ⟨x :: args, []⟩) R ⟨h, g, d, t, os⟩) : codeAny (model p w) A (.call (.ref b) ⟨args, []⟩) R ⟨h, g, d, t, os⟩ := by
  refine codeAny_of_tree ?_
  show wpAny _ A.in1 (callAny (.ref b) ⟨args, []⟩) _ _ _
  unfold callAny
  refine wpAny_bind (wpAny_load hb ?_)
  dsimp only
  rw [if_pos hbt]
  show wpAny _ _ (if (Value.type bT != .type "method") = true then _ else _) _ _ _
  rw [if_pos hbt']
  exact wpAny_bind (hck _ _ _ (wpAny_pure ⟨hqt, hq⟩))
end
end Mine
end
section
open PySem PySem.Spec PySem.Calls PyProof.Rows PySem.W
namespace Mine
variable {p : Program} {w : World} {K : Frag} {n : Nat} {env : Env} {σ : Store} {N N' : Store → Prop} {R : D → Prop} {rest : List Stmt}

/-- a method of the class of piles, by its place in it -/
noncomputable def mdAt (i : Nat) (c : Addr) (cl : List (Str × Addr)) (dfl ct : Value) : FuncData := match Challenge.pw_xt0002_01.main.body[6]? with
  | some (Stmt.ClassDef _ _ _ body _ _ _ _ _ _ _) => (match body[i]? with
    | some (.FunctionDef name args body _ _ _ scope _ _ _) => { name, qualname := "_Accumulator." ++ name, params := args, body := .stmts body, scope, globals := 3, closure := cl, defaults := dfl, kwdefaults := .none, pyModule := .str "cpy313.email.header" 298, code := .ref c, closureTuple := ct }
    | _ => default)
  | _ => default
noncomputable def fInit : FuncData := mdAt 0 61 [("__class__", 49)] (.ref 54) (.ref 55)
noncomputable def fPush : FuncData := mdAt 1 68 [] .none .none
noncomputable def fPop : FuncData := mdAt 3 84 [("__class__", 49)] .none (.ref 78)
noncomputable def fLen : FuncData := mdAt 4 91 [] .none .none
noncomputable def fStr : FuncData := mdAt 5 98 [] .none .none
noncomputable def fPart : FuncData := mdAt 8 121 [("__class__", 49)] .none (.ref 115)
/-- what the written heap bears of the methods -/
structure KM (p : Program) (K : Frag) : Prop where
  init : FnIn K 62 fInit
  push : FnIn K 69 fPush
  pop : FnIn K 85 fPop
  len : FnIn K 92 fLen
  str : FnIn K 99 fStr
  part : FnIn K 122 fPart
  file : ∀ c ∈ ([61, 84, 121] : List Addr), ∃ oc vs file t, K.lookup c = some oc ∧ oc.data = .fields vs ∧ vs[2]? = some (.str file t) ∧ ((p.main.file : Str) == file) = true
  typ : ∀ f ∈ ([62, 69, 85, 92, 99, 122] : List Addr), typeIn K (.ref f) = some (.type "function")
  top : (p.main.scope.names.lookup ("super" : Str)).isSome = false
  cell : ∃ cl cld csl, K.lookup 49 = some ⟨cl, cld, .cell (some (.ref 125)), csl⟩
  dfl : ∃ d sl k t, K.lookup 54 = some ⟨.type "tuple", d, .seq #[.int 0 t] k, sl⟩

theorem Wd.loadSuper {M : Model} {A : Around} {E : Value → Shared → Prop} {s : Shared} {env : Env} {Q : Value → Shared → Prop} (W : Wd p w K s.heap) (kx : KX K) (hg : env.globals = mainGlobals) (hb : env.builtins = builtinsNs) (hk : env.scope.kind = .function) (hx : env.kindOf "super" = some .globalImplicit)
    (h : Q (.type "super") s) : wpAny M A (loadName env "super") Q E s := by
  obtain ⟨mg, hG⟩ := W.g
  obtain ⟨mb, hB, hf⟩ := W.b
  exact ks_loadName_global hk hx (loadGlobal_builtin (by rw [hg]; exact hG) (mg_none_of W.kin hG (kx.b "super" (by decide))) (by rw [hb]; exact hB) ((hf "super" (by decide)).trans (by rfl)) h)

section
variable {A : Around} {E : Value → Shared → Prop} {s : Shared} {body : List Stmt}
theorem supCall {L f x c : Addr} {ox : Obj} {fd : FuncData} {ar : Arg} {m : Str → Option Value} {name : Str} {id dT gid bT : String} {p0 p1 apos pos : Pos} {Q : Value → Shared → Prop} (S : SupF name id dT gid bT) (kx : KX K) (kc : KC K) (km : KM p K) (W : Wd p w K s.heap)
    (hx : s.heap.get? x = some ox) (hc : ox.cls = .ref 125) (hnc : ∀ c, ox.data ≠ .cls c) (hxC : x ≠ 125) (hf : FnIn K f fd) (hcode : fd.code = .ref c) (hcm : c ∈ ([61, 84, 121] : List Addr)) (hcl : fd.closure = [(("__class__" : Str), 49)]) (hgl : fd.globals = mainGlobals) (hbi : fd.builtins = builtinsNs)
    (hks : fd.scope.names.lookup ("super" : Str) = some .globalImplicit) (hkc : fd.scope.names.lookup ("__class__" : Str) = some .free) (hka : fd.scope.names.lookup ar.arg = some .local) (hk : fd.scope.kind = .function) (hp : (fd.params.posonlyargs ++ fd.params.args).head? = some ar)
    (hn : s.heap.Ns L m) (hm : m ar.arg = some (.ref x))
    (hck : ∀ (A : Around) (E : Value → Shared → Prop) (Q : Unit → Shared → Prop) (s' : Shared), (∀ b o, s.heap.get? b = some o → s'.heap.get? b = some o) → Q () s' → wpAny (model p w) A (checkBoundCall id ⟨[.ref x], []⟩) Q E s') (hqt : (Code.builtin id ⟨[.ref x], []⟩).quiet = true)
    (hq : ∀ h' tk, (∀ b o, s.heap.get? b = some o → h'.get? b = some o) → codeAny (model p w) A (.builtin id ⟨[.ref x], []⟩) (wants Q E) { s with heap := h', toks := tk })
    (he : eval (.Call (.Attribute (.Call (.Name "super" p0) [] [] p1) name apos) [] [] pos) (callEnv fd L f) = (do
      let ov ← attributeBase (.Call (.Name "super" p0) [] [] p1) name (callEnv fd L f) (eval (.Call (.Name "super" p0) [] [] p1) (callEnv fd L f))
      standAt apos.atName
      let (f', first) ← holding [ov] (getMethod ov name (pure false))
      callWith pos f' first (backTo pos (starEach [] (callEnv fd L f))) []) := by rfl) :
    PySem.wpAt (model p w) A (.func body (callEnv fd L f)) (eval (.Call (.Attribute (.Call (.Name "super" p0) [] [] p1) name apos) [] [] pos) (callEnv fd L f)) Q E s := by
  obtain ⟨c₀, d₀, sl₀, hfo⟩ := hf.obj
  obtain ⟨oc, vs, file, tf, hoc, hvs, hv2, hfile⟩ := km.file c hcm
  obtain ⟨cl, cld, csl, hcell⟩ := km.cell
  obtain ⟨occ, od, cd, sl, hC, e1, e2, hl, e3, _⟩ := kc.obj
  have X := W.kin
  have hcC : clsIn K 125 = some cd := by unfold clsIn; rw [hC]
  have Y := makesL (M := model p w) kc X
  have hmro : Looks (model p w) s.heap (mroOf (.ref 125)) [.ref 125, .type "list", .type "object"] := hl ▸ ((looks_clsIn X hcC).andThen .now)
  refine ks_wpAt_MethodCall (ks_wpAt_super_base (env := callEnv fd L f) hks hkc S.nocls rfl (X _ _ hfo) rfl hp hcode (X _ _ hoc) hvs hv2 hfile km.top ?_) he
  refine W.loadSuper kx hgl hbi hk hks ⟨rfl, ?_⟩
  refine wpAny_loadName_free hk hkc (c := 49) (by show List.lookup _ fd.closure = _; rw [hcl]; rfl) ⟨_, X _ _ hcell, rfl⟩ ?_
  refine wpAny_loadName_local hk hka hn hm ?_
  obtain ⟨hp', g, d, t, os⟩ := s
  refine ks_wpAny_isType_cls (X _ _ hC) rfl ⟨rfl, ?_⟩
  refine ks_wpAny_call_super (X _ _ hC) rfl hx hc hnc Y.self (fun h' e k => ?_)
  have hmro' := hmro.keeps k
  refine super_method S e (looks_opaque (X.keeps k) kc.opq) hmro' (k _ _ hx) hc (Y.top.keeps k) hxC ?_
  have k2 : ∀ b o, hp'.get? b = some o → (h'.push { cls := .type bT, data := .fields #[.builtin id, .ref x] }).get? b = some o := fun b o eb => Heap.get?_push_of_some _ (k b o eb)
  have hb := Heap.get?_push_size h' (o := { cls := .type bT, data := .fields #[.builtin id, .ref x] }) rfl
  refine callWith_of (P := fun h => h.get? h'.objs.size = some { cls := .type bT, data := .fields #[.builtin id, .ref x] }) rfl (fun h hh => ⟨.machine, .inr (.inl rfl), ?_⟩) (evArgs rfl (spliced_none ⟨hb, ?_⟩))
  · have h1 : (Value.type bT == .type "builtin_function_or_method" || Value.type bT == .type "method-wrapper") = true := by
      have a := S.bt
      have b := S.bt'
      rw [bne, Bool.not_eq_true'] at b
      rw [b, Bool.false_or] at a
      exact a
    refine (Looks.ld (part := none) hh).andThen ?_
    show Looks _ _ (if (Value.type bT != .type "method") = true then _ else _) _
    rw [if_pos S.bt']
    show Looks _ _ (pure (if (Value.type bT == .type "builtin_function_or_method" || Value.type bT == .type "method-wrapper") = true then Keeper.machine else Keeper.caller)) _
    rw [if_pos h1]
    exact .now
  · refine wpAny_call (bound_call hb S.bt S.bt' (fun A E Q h => hck A E Q _ k2 h) hqt (hq _ _ k2))

/-- the call of a method of piles -/
theorem Wd.callDef {f : Addr} {fd : FuncData} {body : List Stmt} {args : Args} {binds : List (Str × Value)} {R : Result → Shared → Prop} (W : Wd p w K s.heap) (hf : FnIn K f fd) (hroom : A.depth < recursionLimit) (hbody : fd.body = .stmts body) (hbind : BindsTo s fd args binds)
    (hcell : ∀ x ∈ fd.scope.names, x.2 ≠ .cell) (hloc : ∀ x ∈ binds, fd.scope.names.lookup x.1 = some .local) (hco : fd.scope.isCoroutine = false) (hgen : fd.scope.isGenerator = false) (hk : fd.scope.kind = .function)
    (h : ∀ L h₀ tk, s.heap.objs.size ≤ L → h₀.Ns L (fun x => binds.reverse.lookup x) → (∀ b o, s.heap.get? b = some o → h₀.get? b = some o) →
      PySem.wpAt (model p w) (A.deeper (callEnv fd L f)) (.func body (callEnv fd L f)) (execs body (callEnv fd L f)) (fun fl s' => R (.ok (.ret (match fl with | .ret v => v | _ => .none))) s')
        (fun e s' => wpAny (model p w) (A.deeper (callEnv fd L f)) (leaving (callEnv fd L f) e) (fun _ s'' => R (.error e) s'') (fun e' s'' => R (.error e') s'') s') { s with heap := h₀, toks := tk }) : codeAny (model p w) A (.call (.ref f) args) R s := by
  obtain ⟨c₀, d₀, sl₀, hfo⟩ := hf.obj
  exact ks_codeAny_call_defAt hroom (W.kin _ _ hfo) rfl W.lim (hf.cdr W.kin) hbody hbind hcell hloc (fun h₀ hn hk' => h _ h₀ _ (Nat.le_refl _) hn hk') hco hgen hk

theorem subL {h : Heap} (kc : KC K) (X : K.In h) {x : Addr} {ox : Obj} (hx : h.get? x = some ox) (hc : ox.cls = .ref 125) (M : Model) : Looks M h (isInstance (.ref x) (.type "list")) true :=
  (((Looks.ld (part := some headPart) hx).andThen (hc ▸ .now) : Looks M h (typeOf (.ref x)) (.ref 125))).andThen (makesL kc X).top

/-- part_count -/
theorem part_call {x : Addr} {dx : Addr} {vs : List Value} {e : Nat} {R : Result → Shared → Prop} (kx : KX K) (kc : KC K) (km : KM p K) (W : Wd p w K s.heap) (hroom : A.depth < recursionLimit) (hx : s.heap.get? x = some (pilObj dx vs.toArray e)) (hz : vs.length ≤ 1000)
    (hR : ∀ h' tk t, (∀ b o, s.heap.get? b = some o → h'.get? b = some o) → R (.ok (.ret (.int vs.length t))) { s with heap := h', toks := tk }) : codeAny (model p w) A (.call (.ref 122) ⟨[.ref x], []⟩) R s := by
  have hxC : x ≠ 125 := by
    rintro rfl
    obtain ⟨_, _, _, _, hC, _⟩ := kc.obj
    rw [W.kin _ _ hC] at hx; cases hx
  refine W.callDef km.part hroom (body := _) rfl (BindsTo.of_eq (binds := [("self", .ref x)]) rfl) (by decide) (by intro y hy; rw [List.mem_singleton.mp hy]; rfl) rfl rfl rfl fun L h₀ tk hL hn k => ?_
  have W1 : Wd p w K h₀ := W.kp (.of k)
  refine ks_wpAt_execs_cons (ks_wpAt_Return_some ?_)
  refine supCall (s := { s with heap := h₀, toks := tk }) sup_len kx kc km W1 (k _ _ hx) rfl (fun c e => by cases e) hxC km.part rfl (by decide) rfl rfl rfl rfl rfl rfl rfl rfl hn rfl ?_ ?_ ?_
  · intro A E Q s' _ h
    exact wpAny_of_eq (show checkBoundCall "list.__len__" ⟨[.ref x], []⟩ = pure () by kernel_rfl) h
  · exact Code.quiet_builtin _ (by decide +kernel)
  · intro h' tk' k'
    refine codeAny_builtin PySem.F.entry_list_len ?_
    have hx' := k' _ _ (k _ _ hx)
    show wpAny _ _ (seqSize x >>= fun a => retInt a) _ _ _
    refine wpAny_bind (wpAny_bind (wpAny_loadPart hx' (wpAny_pure ?_)))
    refine wpAny_bind (wpAny_mkInt (wpAny_pure ?_))
    have e : (vs.toArray.size : Int) = vs.length := by simp
    rw [e]
    exact hR h' _ _ fun b o eb => k' b o (k b o eb)
end
end Mine
end
section
open PySem PySem.Spec PySem.Calls PyProof.Rows PySem.W
namespace Mine
variable {p : Program} {w : World} {K : Frag} {n : Nat} {env : Env} {σ : Store} {N N' : Store → Prop} {R : D → Prop} {rest : List Stmt}

section
variable {A : Around} {E : Value → Shared → Prop} {s : Shared} {body : List Stmt}
/-- a method of a pile, looked up -/
theorem getMeth {x dx : Addr} {vs : Array Value} {e : Nat} {od : Obj} {name : Str} {f : Value} {T : String} {pl : Sem Bool} {Q : Value × List Value → Shared → Prop} (kc : KC K) (X : K.In s.heap) (hx : s.heap.get? x = some (pilObj dx vs e)) (hd : s.heap.get? dx = some od)
    (hf : findIn K (.ref 125) name = some (some f)) (ht : typeIn K f = some (.type T)) (hT : (Value.type T != .type "function" && Value.type T != .type "method_descriptor" && Value.type T != .type "wrapper_descriptor") = false) (hs : shadowIn (some od) name = some false)
    (h : Q (f, [.ref x]) s) : wpAny (model p w) A (getMethod (.ref x) name pl) Q E s := by
  have I : InstAt s.heap x (pilObj dx vs e) 125 (some od) := ⟨hx, rfl, rfl, hd⟩
  have hcan := PySem.canon_list_getattribute
  unfold getMethod specialOf
  refine wpAny_bind (wpAny_bind (I.type.here ((looks_findIn X kc.ga).here ?_)))
  dsimp only
  rw [hcan, if_neg (by decide)]
  refine wpAny_bind (wpAny_bind (I.type.here ((looks_findIn X kc.noga).here ?_)))
  refine wpAny_bind (wpAny_bind (I.type.here ((looks_findIn X hf).here (wpAny_bind ((looks_typeIn X ht).here ?_)))))
  rw [if_neg (by rw [hT]; decide)]
  refine wpAny_bind (wpAny_loadPart hx ?_)
  obtain ⟨r, a, b⟩ := Option.map_eq_some_iff.mp hs
  refine wpAny_bind (wpAny_bind (wpAny_loadPart hd ?_))
  rw [nsLook_of a]
  refine wpAny_pure ?_
  rw [b]
  exact wpAny_bind (wpAny_rule (wpAny_pure h))
theorem shadow {first : Int} {od : Obj} {name : Str} (h : SzObj first od) (hn : (("_initial_size" : Str) == name) = false) : shadowIn (some od) name = some false := by
  obtain ⟨hs, t, t', k, rfl⟩ := h
  have hn' : ¬ (("_initial_size" : Str) = name) := by simpa using hn
  simp [shadowIn, lookIn, Value.isStr, DictEntry.refKey, hn']
/-- the call of a method -/
theorem methodCall {o : Expr} {name : Str} {apos pos : Pos} {args : List Expr} {pl : Sem Bool} {Q : Value → Shared → Prop}
    (h : wpAny (model p w) A (attributeBase o name env (eval o env)) (fun ov s₁ => wpAny (model p w) A (getMethod ov name pl) (fun fx s₂ => wpAny (model p w) A (callWith pos fx.1 fx.2 (backTo pos (starEach args env)) []) Q E s₂) E s₁) E s)
    (he : eval (.Call (.Attribute o name apos) args [] pos) env = (do
      let ov ← attributeBase o name env (eval o env)
      standAt apos.atName
      let (f, first) ← holding [ov] (getMethod ov name pl)
      callWith pos f first (backTo pos (starEach args env)) []) := by rfl) : wpAny (model p w) A (eval (.Call (.Attribute o name apos) args [] pos) env) Q E s := by
  rw [he]
  exact wpAny_bind (wpAny_mono h (fun ov s₁ h₁ => wpAny_bind (wpAny_standAt (wpAny_bind (wpAny_holding (wpAny_mono h₁ (fun fx s₂ h₂ => h₂) fun _ _ x => x))))) fun _ _ x => x)
end
end Mine
end
section
open PySem PySem.Spec PySem.Calls PyProof.Rows PySem.W
namespace Mine
variable {p : Program} {w : World} {K : Frag} {n : Nat} {env : Env} {σ : Store} {N N' : Store → Prop} {R : D → Prop} {rest : List Stmt}

theorem check_meth {M : Model} {A : Around} {E : Value → Shared → Prop} {s : Shared} {i owner n : String} {self : Value} {rest : List Value} {Q : Unit → Shared → Prop}
    (hk : builtinKind i = some .method) (hs : splitId i = some (owner, n)) (hi : Looks M s.heap (isInstance self (.type owner)) true) (ha : argsOk i ⟨self :: rest, []⟩) (q : Q () s) : wpAny M A (checkBuiltinCall i ⟨self :: rest, []⟩) Q E s := by
  simp only [checkBuiltinCall, hk, hs]
  refine wpAny_bind (hi.here ?_)
  simp only [Bool.not_true, Bool.false_eq_true, if_false]
  cases hsig : Manifest.signature? i with
  | none => exact wpAny_pure q
  | some sig =>
    simp only [argsOk, hsig] at ha
    have h2 : Bind.checkArgs i sig ⟨self :: rest, []⟩ = pure () := ha
    show wpAny M A (Bind.checkArgs i sig ⟨self :: rest, []⟩) Q E s
    rw [h2]; exact wpAny_pure q
theorem pil_map (dx : Addr) (xs : Array Value) (e : Nat) (f : Array Value → Array Value) : ∃ e', Obj.mapSeq f (pilObj dx xs e) = pilObj dx (f xs) e' := ⟨_, rfl⟩
theorem pil_update {h : Heap} {x dx : Addr} {xs : Array Value} {e : Nat} (hx : h.get? x = some (pilObj dx xs e)) (f : Array Value → Array Value) : ∃ e', (h.update x (Obj.mapSeq f)).get? x = some (pilObj dx (f xs) e') := by
  obtain ⟨e', he⟩ := pil_map dx xs e f
  exact ⟨e', by rw [← he]; exact Heap.get?_update_self _ hx (by rw [he]; rfl)⟩
namespace F
theorem kindAppend : builtinKind "list.append" = some .method := by decide +kernel
theorem splitAppend : splitId "list.append" = some ("list", "append") := by decide +kernel
theorem typAppend (K : Frag) : typeIn K (.builtin "list.append") = some (.type "method_descriptor") := by kernel_rfl
end F

section
variable {A : Around} {E : Value → Shared → Prop} {s : Shared}
theorem pilAppend {x dx : Addr} {vs : List Value} {e : Nat} {v : Value} {Q : Value → Shared → Prop} (kc : KC K) (X : K.In s.heap) (hx : s.heap.get? x = some (pilObj dx vs.toArray e)) (hz : vs.length ≤ 1000)
    (hQ : ∀ h' e', h'.get? x = some (pilObj dx (vs ++ [v]).toArray e') → Heap.SameBut x s.heap h' → Q .none { s with heap := h' }) : wpAny (model p w) A (call (.builtin "list.append") [.ref x, v]) Q E s := by
  refine wpAny_call (codeAny_call_builtin slot_list_append.plain entry_list_append (check_meth F.kindAppend F.splitAppend (subL kc X hx rfl _) (args_list_append _ _) ?_))
  show wpAny _ _ (updateSeq x (·.push v) >>= fun _ => ret .none) _ _ s
  obtain ⟨e', he⟩ := pil_update hx (·.push v)
  refine wpAny_bind (wpAny_updateSeq (hz := by rw [List.size_toArray]; exact Nat.le_trans hz (by decide)) hx rfl (wpAny_pure ?_))
  have e1 : vs.toArray.push v = (vs ++ [v]).toArray := by simp
  rw [e1] at he
  exact hQ _ e' he (Heap.SameBut.update ..)

/-- push -/
theorem push_call {x dx : Addr} {vs : List Value} {e : Nat} {first : Int} {od : Obj} {a b : Value} {R : Result → Shared → Prop} (kx : KX K) (kc : KC K) (km : KM p K) (W : Wd p w K s.heap) (hroom : A.depth < recursionLimit) (hx : s.heap.get? x = some (pilObj dx vs.toArray e))
    (hd : s.heap.get? dx = some od) (hsz : SzObj first od) (hz : vs.length ≤ 1000)
    (hR : ∀ h' tk T o e', s.heap.objs.size ≤ T → h'.get? T = some o → IsT o [a, b] → h'.get? x = some (pilObj dx (vs ++ [Value.ref T]).toArray e') → (∀ c o, c ≠ x → s.heap.get? c = some o → h'.get? c = some o) → R (.ok (.ret .none)) { s with heap := h', toks := tk }) :
    codeAny (model p w) A (.call (.ref 69) ⟨[.ref x, a, b], []⟩) R s := by
  refine W.callDef km.push hroom (body := _) rfl (BindsTo.of_eq (binds := [(("self" : Str), Value.ref x), (("fws" : Str), a), (("string" : Str), b)]) rfl) (by decide) (by
    intro y hy
    rcases List.mem_cons.mp hy with rfl | hy
    · rfl
    · rcases List.mem_cons.mp hy with rfl | hy
      · rfl
      · rw [List.mem_singleton.mp hy]; rfl) rfl rfl rfl fun L h₀ tk hL hn k => ?_
  have W1 : Wd p w K h₀ := W.kp (.of k)
  have hself : ∀ {Q : Value → Shared → Prop} {E : Value → Shared → Prop} {A' : Around} {pos : Pos} {s₁ : Shared} {nm : Str} {v : Value}, s₁.heap.Ns L (fun y => List.lookup y ([(("self" : Str), Value.ref x), ("fws", a), ("string", b)]).reverse) → fPush.scope.names.lookup nm = some .local → List.lookup nm ([(("self" : Str), Value.ref x), ("fws", a), ("string", b)]).reverse = some v → (nm == ("__debug__" : Str)) = false → Q v s₁ → wpAny (model p w) A' (eval (.Name nm pos) (callEnv fPush L 69)) Q E s₁ := fun hns hl hv hdb h =>
    wpAny_Name (wpAny_loadName_local rfl hl hns hv h) hdb
  refine wpAt_of_wpAny (wpAny_execs_cons (wpAny_Expr_any (methodCall ?_) rfl rfl))
  show wpAny _ _ (eval (.Name "self" _) _) _ _ _
  refine hself hn rfl rfl (by decide) ?_
  refine getMeth kc W1.kin (k _ _ hx) (k _ _ hd) kc.append (F.typAppend K) (by decide) (shadow hsz (by decide)) ?_
  refine callWith_of (P := fun _ => True) rfl (fun h _ => PlainF.bi (p := p) (w := w) (K := []) h (by intro a o e; cases e)) (evArgs rfl (spliced_more (Tuple_ (spliced_more (hself hn rfl rfl (by decide) (spliced_more (hself hn rfl rfl (by decide) (spliced_none (wpAny_newTuple ?_ (show (2 : Nat) ≤ sizeLine by decide)))) rfl)) rfl)) rfl))
  refine spliced_none ⟨trivial, ?_⟩
  refine pilAppend kc (W1.kin.keeps fun b o e => Heap.get?_push_of_some _ e) (Heap.get?_push_of_some _ (k _ _ hx)) hz fun h' e' hx' hs' => ?_
  refine wpAny_execs_nil ?_
  have hT : (h₀.push { cls := .type "tuple", data := .seq [a, b].toArray }).get? h₀.objs.size = some { cls := .type "tuple", data := .seq [a, b].toArray } := Heap.get?_push_size _ rfl
  have hne : h₀.objs.size ≠ x := Nat.ne_of_gt (Heap.lt_size (k _ _ hx))
  exact hR h' _ h₀.objs.size _ e' (Nat.le_trans hL (Nat.le_of_lt hn.lt)) ((hs'.2 _ hne).trans hT) ⟨0, rfl⟩ hx' fun c o hc ec => (hs'.2 c hc).trans (Heap.get?_push_of_some _ (k c o ec))
end
end Mine
end
section
open PySem PySem.Spec PySem.Calls PyProof.Rows PySem.W Builtin Builtin.ObjectAttr Builtin.Getset_descriptor
namespace Mine
variable {p : Program} {w : World} {K : Frag} {n : Nat} {env : Env} {σ : Store} {N N' : Store → Prop} {R : D → Prop} {rest : List Stmt}

namespace F
theorem passL (self : Value) : refuseLoop self "__setattr__" [.type "list", .type "object"] = pure () := by kernel_rfl
end F
section
variable {A : Around} {E : Value → Shared → Prop} {s : Shared}
theorem pilStore {x dx : Addr} {xs : Array Value} {e : Nat} {v : Value} {tk : Tok} {i : Int} {t : Tok} {R : Result → Shared → Prop} (hv : v = .int i t) (kc : KC K) (X : K.In s.heap) (hx : s.heap.get? x = some (pilObj dx xs e)) (hd : s.heap.get? dx = some emptyDict)
    (hR : ∀ h' tk od, h'.get? dx = some od → SzObj i od → Heap.SameBut dx s.heap h' → R (.ok (.ret .none)) { s with heap := h', toks := tk }) :
    codeAny (model p w) A (.call (.builtin "object.__setattr__") ⟨[.ref x, .str "_initial_size" tk, v], []⟩) R s := by
  have I : InstAt s.heap x (pilObj dx xs e) 125 (some emptyDict) := ⟨hx, rfl, rfl, hd⟩
  have SF := PySem.F.store_object
  obtain ⟨occ, odd, cd, sl, hC, e1, e2, hl, e3, hdict⟩ := kc.obj
  have hc : clsIn K 125 = some cd := by unfold clsIn; rw [hC]
  have sub : Looks (model p w) s.heap (isInstance (.ref x) (.type "object")) true := I.type.andThen (looks_mroIn X (by unfold mroIn; rw [hc, Option.bind_some, hl]; rfl))
  refine codeAny_call_builtin SF.slot.plain SF.entry (@check_slot (model p w) _ _ s "object.__setattr__" "object" "__setattr__" (.ref x) [.str "_initial_size" tk, v] [] _ SF.kind SF.split sub (SF.args (.ref x) (.str "_initial_size" tk) v) ?_)
  obtain ⟨attr, ha, hr⟩ := Option.bind_eq_some_iff.mp kc.taker
  have hm : Looks (model p w) s.heap (mroOf (.ref 125)) cd.mro := (looks_clsIn X hc).andThen .now
  have L3 : Looks (model p w) s.heap (storeTaker? attr) none := by
    cases attr with
    | none => exact .now
    | some a =>
      obtain ⟨b, hb, hb'⟩ := Option.map_eq_some_iff.mp hr
      refine (looks_takesIn X hb).andThen ?_
      cases b
      · exact .now
      · cases hb'
  rw [osa_eq, refuse_eq]
  refine wpAny_bind (wpAny_bind (I.type.here (wpAny_bind (hm.here ?_))))
  rw [hl, refuseLoop_ref, F.passL]
  refine wpAny_pure (wpAny_bind (I.type.here (wpAny_bind ((looks_findIn X ha).here (wpAny_bind (L3.here ?_))))))
  dsimp only
  refine wpAny_bind (wpAny_pure (wpAny_bind (wpAny_bind (wpAny_loadPart hx (wpAny_bind ((looks_clsIn X hc).here ?_))))))
  rw [hdict]
  refine wpAny_pure (a := some dx) (wpAny_bind (wpAny_pure (wpAny_bind ?_)))
  unfold nsSet
  refine wpAny_bind (wpAny_bind (wpAny_askSetting (wpAny_pure (wpAny_bind (wpAny_mkText (wpAny_bind (wpAny_loadPart hd ?_)))))))
  subst hv
  have hput : ∀ hs, SzObj i (Obj.putName "_initial_size" hs (.str "_initial_size" s.toks) (.int i t) emptyDict) := fun hs => ⟨hs, t, s.toks, _, rfl⟩
  have hfree : ∀ hs, (Obj.putName "_initial_size" hs (.str "_initial_size" s.toks) (.int i t) emptyDict).isFreed = false := fun hs => rfl
  have hpast : ∀ hs, (Obj.putName "_initial_size" hs (.str "_initial_size" s.toks) (.int i t) emptyDict).data.pastItsLine = none := fun hs => rfl
  refine wpAny_updatePart hd ?_
  have D' := fun hs => Heap.get?_update_self (h := s.heap) (a := dx) (Obj.putName "_initial_size" hs (.str "_initial_size" s.toks) (.int i t)) hd (hfree hs)
  refine wpAny_bind (wpAny_lookBehind (D' _) (hpast _) ?_)
  exact wpAny_pure (hR _ _ _ (D' _) (hput _) (Heap.SameBut.update ..))
end
end Mine
end
section
open PySem PySem.Spec PySem.Calls PyProof.Rows PySem.W
namespace Mine
variable {p : Program} {w : World} {K : Frag} {n : Nat} {env : Env} {σ : Store} {N N' : Store → Prop} {R : D → Prop} {rest : List Stmt}

section
variable {A : Around} {E : Value → Shared → Prop} {s : Shared}
/-- __init__ -/
theorem init_call {x dx : Addr} {e : Nat} {i : Int} {t : Tok} {args : Args} {R : Result → Shared → Prop} (kx : KX K) (kc : KC K) (km : KM p K) (W : Wd p w K s.heap) (hroom : A.depth < recursionLimit) (hx : s.heap.get? x = some (pilObj dx #[] e)) (hd : s.heap.get? dx = some emptyDict) (hlx : lowN ≤ x) (hld : lowN ≤ dx)
    (hb : BindsTo s fInit args [(("self" : Str), Value.ref x), ("initial_size", .int i t)])
    (hR : ∀ h' tk od e', h'.get? x = some (pilObj dx #[] e') → h'.get? dx = some od → SzObj i od → (∀ c o, c ≠ x → c ≠ dx → s.heap.get? c = some o → h'.get? c = some o) → R (.ok (.ret .none)) { s with heap := h', toks := tk }) :
    codeAny (model p w) A (.call (.ref 62) args) R s := by
  have hxC : x ≠ 125 := fun q => by subst q; exact absurd hlx (by decide)
  have hne : x ≠ dx := by rintro rfl; rw [hx] at hd; cases hd
  refine W.callDef km.init hroom (body := _) rfl hb (by decide) (by
    intro y hy
    rcases List.mem_cons.mp hy with rfl | hy
    · rfl
    · rw [List.mem_singleton.mp hy]; rfl) rfl rfl rfl fun L h₀ tk hL hn k => ?_
  have W1 : Wd p w K h₀ := W.kp (.of k)
  have hLx : L ≠ x := fun q => Nat.lt_irrefl _ (Nat.lt_of_lt_of_le (Heap.lt_size hx) (q ▸ hL))
  have hLd : L ≠ dx := fun q => Nat.lt_irrefl _ (Nat.lt_of_lt_of_le (Heap.lt_size hd) (q ▸ hL))
  refine ks_wpAt_execs_cons (ks_wpAt_Assign_Attr (wpAt_of_wpAny ?_) rfl)
  refine wpAny_Name (wpAny_loadName_local rfl rfl hn (v := .int i t) rfl ?_) (by decide)
  refine wpAny_Name (wpAny_loadName_local rfl rfl hn (v := .ref x) rfl ?_) (by decide)
  have hx0 := k _ _ hx
  have hd0 := k _ _ hd
  have I : InstAt h₀ x (pilObj dx #[] e) 125 (some emptyDict) := ⟨hx0, rfl, rfl, hd0⟩
  refine set_plain W1.kin I kc.sa (pilStore rfl kc W1.kin hx0 hd0 fun h1 tk1 od hd1 hsz hs1 => ?_)
  have W2 : Wd p w K h1 := W1.turn hld hs1
  have hx1 := (hs1.2 x hne).trans hx0
  have hn1 := hn.sameBut hs1 hLd
  refine ks_wpAt_execs_cons (ks_wpAt_Expr_any (supCall (s := ⟨h1, s.gens, s.drawn, tk1, s.os⟩) sup_init kx kc km W2 hx1 rfl (fun c e => by cases e) hxC km.init rfl (by decide) rfl rfl rfl rfl rfl rfl rfl rfl hn1 rfl ?_ ?_ ?_) rfl rfl)
  · intro A E Q s' _ h
    exact wpAny_of_eq (show checkBoundCall "list.__init__" ⟨[.ref x], []⟩ = pure () by kernel_rfl) h
  · exact Code.quiet_builtin _ (by decide +kernel)
  · intro h' tk' k'
    refine codeAny_builtin PySem.F.entry_list_init ?_
    have hx' := k' _ _ hx1
    obtain ⟨e', he'⟩ := pil_update hx' (fun _ => (#[] : Array Value))
    unfold Builtin.«list.__init__»
    show wpAny _ _ (Builtin.List.listItems (.ref x) >>= _) _ _ _
    refine wpAny_bind (wpAny_bind (wpAny_seqItems hx' rfl (wpAny_pure ?_)))
    show wpAny _ _ (updateSeq x (fun _ => #[]) >>= _) _ _ _
    refine wpAny_bind (wpAny_updateSeq hx' rfl ?_)
    refine wpAny_bind (wpAny_pure ?_)
    refine wpAny_pure ?_
    refine wpAt_of_wpAny (wpAny_execs_nil ?_)
    have hs2 := Heap.SameBut.update h' x (Obj.mapSeq fun _ => (#[] : Array Value))
    refine hR _ _ od e' he' ((hs2.2 dx (Ne.symm hne)).trans (k' _ _ hd1)) hsz fun c o h1' h2' ec => (hs2.2 c h1').trans (k' _ _ ((hs1.2 c h2').trans (k _ _ ec)))
end
end Mine
end
section
open PySem PySem.Spec PySem.Calls PyProof.Rows PySem.W
namespace Mine
variable {p : Program} {w : World} {K : Frag} {n : Nat} {env : Env} {σ : Store} {N N' : Store → Prop} {R : D → Prop} {rest : List Stmt}

namespace F
theorem kindPop : builtinKind "list.pop" = some .method := by decide +kernel
theorem varPop : Manifest.varargsMethods.contains "list.pop" = false := by decide +kernel
theorem sigPop : Manifest.signature? "list.pop" = some ⟨.positional, "list.pop", "pop", .self, [⟨"index", .posOnly, false⟩]⟩ := by kernel_rfl
theorem chkPop (f : String) (x : Addr) (hf : (f != "*") = true) : Bind.checkArgs "list.pop" ⟨.positional, f, "pop", .self, [⟨"index", .posOnly, false⟩]⟩ ⟨[.ref x], []⟩ = pure () := by
  have h1 : Bind.printed f true ⟨.positional, f, "pop", .self, [⟨"index", .posOnly, false⟩]⟩ (some (.ref x)) = pure f := by
    unfold Bind.printed
    rw [if_pos hf]
  have h2 : Bind.printed "pop" false ⟨.positional, f, "pop", .self, [⟨"index", .posOnly, false⟩]⟩ (some (.ref x)) = pure "pop" := rfl
  have h3 : Bind.check ⟨.positional, f, "pop", .self, [⟨"index", .posOnly, false⟩]⟩ f "pop" 0 [] = pure () := by kernel_rfl
  have key : ∀ (H : Value → Sem Unit), (do
    let a ← Bind.printed f true ⟨.positional, f, "pop", .self, [⟨"index", .posOnly, false⟩]⟩ (some (.ref x))
    let b ← Bind.printed "pop" false ⟨.positional, f, "pop", .self, [⟨"index", .posOnly, false⟩]⟩ (some (.ref x))
    (Bind.check ⟨.positional, f, "pop", .self, [⟨"index", .posOnly, false⟩]⟩ a b 0 []).onRaise H) = pure () := by
    intro H
    rw [h1, h2]
    show (Bind.check ⟨.positional, f, "pop", .self, [⟨"index", .posOnly, false⟩]⟩ f "pop" 0 []).onRaise H = pure ()
    rw [h3]; rfl
  exact key _
theorem starNot (a : String) : ((toString a ++ toString "." ++ toString "pop" : String) != "*") = true := by
  rw [bne_iff_ne]
  intro h
  have h2 : (a ++ "." ++ "pop").length = ("*" : String).length := congrArg String.length h
  rw [String.length_append, String.length_append] at h2
  have h3 : ("*" : String).length = 1 := by decide
  have h4 : ("pop" : String).length = 3 := by decide
  omega
theorem lastPop : Bind.lastOf "list.pop" = "pop" := by decide +kernel
end F
theorem bndPop {x : Addr} {h : Heap} {ox : Obj} (kc : KC K) (X : K.In h) (hx : h.get? x = some ox) (hc : ox.cls = .ref 125) (hnc : ∀ c, ox.data ≠ .cls c) {A : Around} {E : Value → Shared → Prop} {Q : Unit → Shared → Prop} {g : Array GenState} {d : Drawn} {t : Nat} {os : OsState} (q : Q () ⟨h, g, d, t, os⟩) :
    wpAny (model p w) A (checkBoundCall "list.pop" ⟨[.ref x], []⟩) Q E ⟨h, g, d, t, os⟩ := by
  obtain ⟨oc, od, cd, sl, hC, e1, e2, hl, e3, _⟩ := kc.obj
  have hcC : clsIn K 125 = some cd := by unfold clsIn; rw [hC]
  have ty : Looks (model p w) h (typeOf (.ref x)) (.ref 125) := (Looks.ld (part := some headPart) hx).andThen (hc ▸ .now)
  have hm : Looks (model p w) h (isInstance (.ref x) (.type "module")) false := by
    refine ty.andThen (looks_mroIn X ?_)
    unfold mroIn; rw [hcC, Option.bind_some, hl]; rfl
  have it : Looks (model p w) h (isType (.ref x)) false := (Looks.ld hx).andThen (Looks.of_pure (by
    cases hd : ox.data <;> first | exact absurd hd (hnc _) | (show _ = _; simp only [hd])))
  unfold checkBoundCall
  rw [F.sigPop]
  simp only [F.kindPop]
  refine wpAny_bind (hm.here ?_)
  rw [if_neg (by rw [F.varPop]; decide)]
  refine wpAny_bind (it.here ?_)
  simp only [Bool.false_eq_true, if_false]
  refine wpAny_bind (ty.here ?_)
  dsimp only
  refine wpAny_bind ((looks_clsIn X hcC).here ?_)
  refine wpAny_bind (wpAny_bind (wpAny_loadPart (X _ _ hC) (wpAny_pure ?_)))
  dsimp only
  rw [F.lastPop, F.chkPop _ _ (F.starNot _)]
  split
  · exact wpAny_pure q
  · exact wpAny_bind (wpAny_attempt (wpAny_pure (wpAny_pure q)))
theorem popBody {x dx : Addr} {us : List Value} {v : Value} {e : Nat} {A : Around} {s : Shared} {R : Result → Shared → Prop} (hx : s.heap.get? x = some (pilObj dx (us ++ [v]).toArray e)) (hz : us.length ≤ 900)
    (hR : ∀ h' e', h'.get? x = some (pilObj dx us.toArray e') → Heap.SameBut x s.heap h' → R (.ok (.ret v)) { s with heap := h' }) : codeAny (model p w) A (.builtin "list.pop" ⟨[.ref x], []⟩) R s := by
  refine codeAny_builtin PySem.F.entry_list_pop ?_
  unfold Builtin.«list.pop»
  obtain ⟨hp, g, d, tk, os⟩ := s
  have hsz : (us ++ [v]).toArray.size = us.length + 1 := by simp
  have hne : ¬ (us ++ [v]).toArray.isEmpty = true := by simp
  have hk : seqIndex? (-1) (us ++ [v]).toArray.size = some us.length := by
    rw [seqIndex_neg (by omega) (by omega)]; congr 1; omega
  have hy : (us ++ [v]).toArray[us.length]? = some v := by simp
  wp_walk using wpAny_loadPart' hx
  simp only [hk, hy, Option.bind_some, Option.map_some]
  have hs1 : (us ++ [v]).toArray.size ≤ sizeLine := by rw [hsz]; exact Nat.le_trans (Nat.succ_le_succ hz) (by decide)
  have hz' : ((us ++ [v]).toArray.eraseIdxIfInBounds us.length).size ≤ sizeLine + 1 := Nat.le_trans (PySem.MeetsSeq.size_erased _ _) (Nat.le_succ_of_le hs1)
  wp_walk using (wpAny_updateSeq hx rfl (hz := hs1) (_hz' := hz')), wpAny_loadPart' hx
  obtain ⟨e', he⟩ := pil_update hx (fun xs => xs.eraseIdxIfInBounds us.length)
  have e1 : (us ++ [v]).toArray.eraseIdxIfInBounds us.length = us.toArray := by
    apply Array.toList_inj.mp
    rw [Array.toList_eraseIdxIfInBounds]
    show (us ++ [v]).eraseIdx us.length = us
    rw [List.eraseIdx_append_of_length_le (Nat.le_refl _)]
    simp
  rw [e1] at he
  exact hR _ e' he (Heap.SameBut.update ..)

theorem make_weight (vs : List Value) : (Code.builtin "type.__call__" ⟨.ref 125 :: vs, []⟩).weight ≤ 1 := by
  first
    | exact Nat.zero_le _
    | exact Nat.le_refl _
    | (show Code.weight _ ≤ 1; decide)
section
variable {A : Around} {E : Value → Shared → Prop} {s : Shared}
/-- a pile of no parts -/
theorem make_call {vs : List Value} {i : Int} {R : Result → Shared → Prop} (kx : KX K) (kc : KC K) (km : KM p K) (W : Wd p w K s.heap) (hi : lowN ≤ s.heap.objs.size) (hroom : A.depth + 1 < recursionLimit) (hargs : argsOk "list.__new__" ⟨.ref 125 :: vs, []⟩)
    (hb : ∀ x s', (∀ b o, s.heap.get? b = some o → s'.heap.get? b = some o) → ∃ t, BindsTo s' fInit ⟨.ref x :: vs, []⟩ [(("self" : Str), Value.ref x), ("initial_size", .int i t)])
    (hR : ∀ h' tk x dx od e', s.heap.objs.size ≤ x → s.heap.objs.size ≤ dx → x ≠ dx → h'.get? x = some (pilObj dx #[] e') → h'.get? dx = some od → SzObj i od → (∀ c o, s.heap.get? c = some o → h'.get? c = some o) → R (.ok (.ret (.ref x))) { s with heap := h', toks := tk }) :
    codeAny (model p w) A (.call (.ref 125) ⟨vs, []⟩) R s := by
  obtain ⟨h, g, d, t0, os⟩ := s
  refine makePil kc W.kin (km.typ 62 (by decide)) hargs ?_
  have k : ∀ b o, h.get? b = some o → ((h.push emptyDict).push (pilObj h.objs.size #[] 0)).get? b = some o := fun b o e => Heap.get?_push_of_some _ (Heap.get?_push_of_some _ e)
  have hx : ((h.push emptyDict).push (pilObj h.objs.size #[] 0)).get? (h.objs.size + 1) = some (pilObj h.objs.size #[] 0) := by
    have := Heap.get?_push_size (h.push emptyDict) (o := pilObj h.objs.size #[] 0) rfl
    rwa [Heap.size_push] at this
  have hd : ((h.push emptyDict).push (pilObj h.objs.size #[] 0)).get? h.objs.size = some emptyDict := Heap.get?_push_of_some _ (Heap.get?_push_size _ rfl)
  obtain ⟨t, hbt⟩ := hb (h.objs.size + 1) ⟨(h.push emptyDict).push (pilObj h.objs.size #[] 0), g, d, t0, os⟩ k
  refine init_call kx kc km (W.kp (.of k)) (by
    show A.depth + Code.weight _ < _
    have := make_weight vs
    omega) hx hd (Nat.le_succ_of_le hi) hi hbt fun h' tk od e' h1 h2 h3 h4 => ?_
  refine ⟨rfl, hR h' tk _ _ od e' (Nat.le_succ _) (Nat.le_refl _) (Nat.succ_ne_self _) h1 h2 h3 fun c o ec => h4 c o ?_ ?_ (k c o ec)⟩
  · exact Nat.ne_of_lt (Nat.lt_succ_of_lt (Heap.lt_size ec))
  · exact Nat.ne_of_lt (Heap.lt_size ec)
theorem bind_one {x : Addr} {i : Int} {t : Tok} {s' : Shared} (km : KM p K) (X : K.In s'.heap) : BindsTo s' fInit ⟨[.ref x, .int i t], []⟩ [(("self" : Str), Value.ref x), ("initial_size", .int i t)] := by
  obtain ⟨d, sl, k, t', ho⟩ := km.dfl
  exact BindsTo.of_defaults (T := 54) rfl (X _ _ ho) rfl rfl rfl
theorem bind_none {x : Addr} {s' : Shared} (km : KM p K) (X : K.In s'.heap) : ∃ t, BindsTo s' fInit ⟨[.ref x], []⟩ [(("self" : Str), Value.ref x), ("initial_size", .int 0 t)] := by
  obtain ⟨d, sl, k, t, ho⟩ := km.dfl
  exact ⟨t, BindsTo.of_defaults (T := 54) rfl (X _ _ ho) rfl rfl rfl⟩

/-- pop -/
theorem pop_call {x dx : Addr} {us : List Value} {v : Value} {e : Nat} {R : Result → Shared → Prop} (kx : KX K) (kc : KC K) (km : KM p K) (W : Wd p w K s.heap) (hroom : A.depth + 1 < recursionLimit) (hx : s.heap.get? x = some (pilObj dx (us ++ [v]).toArray e)) {od : Obj} {i : Int} (hd : s.heap.get? dx = some od) (hsz : SzObj i od) (hlx : lowN ≤ x) (hz : us.length ≤ 900)
    (hR : ∀ h' tk e', h'.get? x = some (pilObj dx us.toArray e') → (∀ c o, c ≠ x → s.heap.get? c = some o → h'.get? c = some o) → R (.ok (.ret v)) { s with heap := h', toks := tk }) : codeAny (model p w) A (.call (.ref 85) ⟨[.ref x], []⟩) R s := by
  have hxC : x ≠ 125 := fun q => by subst q; exact absurd hlx (by decide)
  refine W.callDef km.pop (by omega) (body := _) rfl (BindsTo.of_eq (binds := [(("self" : Str), Value.ref x)]) rfl) (by decide) (by intro y hy; rw [List.mem_singleton.mp hy]; rfl) rfl rfl rfl fun L h₀ tk hL hn k => ?_
  have W1 : Wd p w K h₀ := W.kp (.of k)
  have hx0 := k _ _ hx
  refine ks_wpAt_execs_cons (ks_wpAt_If (wpAt_of_wpAny (wpAny_isTrue_Compare1 (methodCall ?_) rfl)))
  refine wpAny_Name (wpAny_loadName_local rfl rfl hn (v := .ref x) rfl ?_) (by decide)
  refine getMeth kc W1.kin hx0 (k _ _ hd) kc.part (km.typ 122 (by decide)) (by decide) (shadow hsz (by decide)) ?_
  refine callWith_of (P := K.In) rfl (fun h X => keeps_K km.part.keep h X) (evArgs rfl (spliced_none ⟨W1.kin, wpAny_call ?_⟩))
  refine part_call kx kc km W1 (by simp only [Around.deeper]; omega) hx0 (by rw [List.length_append]; simp; omega) fun h1 tk1 t1 k1 => ?_
  refine wpAny_Constant_int (PySem.P.eq_int (wpAny_truthy_bool ?_))
  have hf : ((((us ++ [v]).length : Nat) : Int) == 0) = false := by rw [List.length_append]; simp; omega
  rw [hf]
  simp only [Bool.false_eq_true, if_false]
  refine wpAt_of_wpAny (wpAny_execs_nil ?_)
  have W2 : Wd p w K h1 := W1.kp (.of k1)
  refine ks_wpAt_execs_cons (ks_wpAt_Return_some ?_)
  refine supCall (s := { s with heap := h1, toks := _ }) sup_pop kx kc km W2 (k1 _ _ hx0) rfl (fun c e => by cases e) hxC km.pop rfl (by decide) rfl rfl rfl rfl rfl rfl rfl rfl (hn.keeps k1) rfl ?_ ?_ ?_
  · intro A E Q s' k' h
    obtain ⟨h', g, d, tk', os⟩ := s'
    exact bndPop kc (W2.kin.keeps k') (k' _ _ (k1 _ _ hx0)) rfl (fun c e => by cases e) h
  · exact Code.quiet_builtin _ (by decide +kernel)
  · intro h' tk' k'
    refine popBody (k' _ _ (k1 _ _ hx0)) hz fun h2 e2 hx2 hs2 => ?_
    exact hR h2 _ e2 hx2 fun c o hc ec => (hs2.2 c hc).trans (k' _ _ (k1 _ _ (k _ _ ec)))
end
end Mine
end
section
open PySem PySem.Spec PySem.Calls PyProof.Rows PySem.W
namespace Mine
variable {p : Program} {w : World} {K : Frag} {n : Nat} {env : Env} {σ : Store} {N N' : Store → Prop} {R : D → Prop} {rest : List Stmt}
section
variable {A : Around} {E : Value → Shared → Prop} {s : Shared}
/-- pop of a pile of no parts -/
theorem pop_none {x dx : Addr} {e : Nat} {R : Result → Shared → Prop} (kx : KX K) (kc : KC K) (km : KM p K) (W : Wd p w K s.heap) (hroom : A.depth + 1 < recursionLimit) (hx : s.heap.get? x = some (pilObj dx #[] e)) {od : Obj} {i : Int} (hd : s.heap.get? dx = some od) (hsz : SzObj i od) (hlx : lowN ≤ x)
    (hR : ∀ h' tk T o t1 t2, s.heap.objs.size ≤ T → h'.get? T = some o → IsT o [.str ("" : Str) t1, .str ("" : Str) t2] → (∀ c o, s.heap.get? c = some o → h'.get? c = some o) → R (.ok (.ret (.ref T))) { s with heap := h', toks := tk }) : codeAny (model p w) A (.call (.ref 85) ⟨[.ref x], []⟩) R s := by
  refine W.callDef km.pop (by omega) (body := _) rfl (BindsTo.of_eq (binds := [(("self" : Str), Value.ref x)]) rfl) (by decide) (by intro y hy; rw [List.mem_singleton.mp hy]; rfl) rfl rfl rfl fun L h₀ tk hL hn k => ?_
  have W1 : Wd p w K h₀ := W.kp (.of k)
  have hx0 : h₀.get? x = some (pilObj dx ([] : List Value).toArray e) := k _ _ hx
  refine ks_wpAt_execs_cons (ks_wpAt_If (wpAt_of_wpAny (wpAny_isTrue_Compare1 (methodCall ?_) rfl)))
  refine wpAny_Name (wpAny_loadName_local rfl rfl hn (v := .ref x) rfl ?_) (by decide)
  refine getMeth kc W1.kin hx0 (k _ _ hd) kc.part (km.typ 122 (by decide)) (by decide) (shadow hsz (by decide)) ?_
  refine callWith_of (P := K.In) rfl (fun h X => keeps_K km.part.keep h X) (evArgs rfl (spliced_none ⟨W1.kin, wpAny_call ?_⟩))
  refine part_call kx kc km W1 (by simp only [Around.deeper]; omega) hx0 (by simp) fun h1 tk1 t1 k1 => ?_
  refine wpAny_Constant_int (PySem.P.eq_int (wpAny_truthy_bool ?_))
  have hf : (((([] : List Value).length : Nat) : Int) == 0) = true := by decide
  rw [hf]
  simp only [if_true]
  refine ks_wpAt_execs_cons (ks_wpAt_Return_some (wpAt_of_wpAny ?_))
  refine Tuple_ (spliced_more (Constant_str (spliced_more (Constant_str (spliced_none (wpAny_newTuple ?_ (show (2 : Nat) ≤ sizeLine by decide)))) rfl)) rfl)
  exact hR _ _ _ _ _ _ (Nat.le_trans hL (Nat.le_of_lt (hn.keeps k1).lt)) (Heap.get?_push_size _ rfl) ⟨0, rfl⟩ fun c o ec => Heap.get?_push_of_some _ (k1 _ _ (k _ _ ec))
end
end Mine
end
section
open PySem PySem.Spec PySem.Calls PyProof.Rows PySem.W
namespace Mine
variable {p : Program} {w : World} {K : Frag} {n : Nat} {env : Env} {σ : Store} {N N' : Store → Prop} {R : D → Prop} {rest : List Stmt}
/-- a code object of the written heap, and its table -/
noncomputable def CodeRow (K : Frag) (c P : Addr) : Prop := ∃ oc vs file tf flags tg inF text tt, K.lookup c = some oc ∧ oc.cls = .type "code" ∧ oc.data = .fields vs ∧ vs.getD 11 .none = .ref P ∧ vs[11]? = some (.ref P) ∧ vs.getD 18 .none = .str file tf ∧
    vs.getD 7 .none = .int flags tg ∧ vs.getD 9 .none = .bool inF ∧ vs.getD 10 .none = .int text tt
section
variable {A : Around} {E : Value → Shared → Prop} {s : Shared}
theorem CodeRow.isCode {h : Heap} {c P : Addr} {ps : Array Value} (r : CodeRow K c P) (X : K.In h) (hP : h.get? P = some (PySem.W.X.tableObj ps)) (ht : TriplesOk ps.toList) : h.IsCode c P ps := by
  obtain ⟨oc, vs, file, tf, flags, tg, inF, text, tt, ho, hc, hd, h11, _, h18, h7, h9, h10⟩ := r
  refine ⟨oc, vs, file, tf, flags, tg, inF, text, tt, _, X _ _ ho, hd, h11, h18, h7, h9, h10, hP, rfl, ht, ?_⟩
  intro e
  subst e
  rw [X _ _ ho] at hP
  cases hP
  cases hc
theorem CodeRow.tableAt {h : Heap} {c P : Addr} {ps : Array Value} (r : CodeRow K c P) (X : K.In h) (hP : h.get? P = some (PySem.W.X.tableObj ps)) : h.TableAt c P ps := by
  obtain ⟨oc, vs, file, tf, flags, tg, inF, text, tt, ho, hc, hd, _, h11, _⟩ := r
  exact ⟨⟨oc, vs, X _ _ ho, hc, hd, h11⟩, hP⟩
/-- the code object of a generator expression: found, or made and put into the table -/
theorem genCode {c P : Addr} {pos : Pos} {q : Str} {scope : Scope} {Q : Value → Shared → Prop} (W : Wd p w K s.heap) (hc : env.code = .ref c) (r : CodeRow K c P) (hP : P = tA ∨ P = tB)
    (hQ : ∀ code h' tk, Kp s.heap h' → s.heap.objs.size ≤ h'.objs.size → (∀ b o, b ≠ P → s.heap.get? b = some o → h'.get? b = some o) → Q code { s with heap := h', toks := tk }) : wpAny (model p w) A (genexprCode env pos q scope) Q E s := by
  have hT : ∃ ps, s.heap.get? P = some (PySem.W.X.tableObj ps) ∧ TriplesOk ps.toList := by
    rcases hP with rfl | rfl
    · exact W.ta
    · exact W.tb
  obtain ⟨ps, hp, ht⟩ := hT
  cases hf : codeAmong pos ps.toList with
  | some c' =>
    refine wpAny_genexprCode_hit hc (r.isCode W.kin hp ht) hf ?_
    obtain ⟨h, g, d, t, os⟩ := s
    exact hQ c' h t (.refl _) (Nat.le_refl _) fun b o _ e => e
  | none =>
    refine wpAny_genexprCodeX hc (r.isCode W.kin hp ht) (r.tableAt W.kin hp) hf fun c' h' tk hx h1 h2 hok _ htab _ => ?_
    have hg : Grows s.heap.get? h' P := fun ps' e q' => by
      rw [hp] at e
      have e' : ps = ps' := by
        have := Option.some.inj e
        injection this with _ _ hh
        injection hh
      subst e'
      obtain ⟨_, _, _, _, _, _, _, _, _, op, _, _, _, _, _, _, _, h3, h4, h5, _⟩ := hok
      exact ⟨_, htab.2, h5⟩
    have hne : ∀ t, t ≠ P → Grows s.heap.get? h' t := fun t hne ps' e q' => ⟨#[], by rw [Array.append_empty]; exact hx _ _ hne e, by rw [Array.append_empty]; exact q'⟩
    refine hQ _ h' tk ⟨fun b o ha hb e => hx b o (by rcases hP with rfl | rfl <;> assumption) e, ?_, ?_⟩ (Nat.le_trans h1 (Nat.le_of_lt h2)) hx
    · rcases hP with rfl | rfl
      · exact hg
      · exact hne _ (by decide)
    · rcases hP with rfl | rfl
      · exact hne _ (by decide)
      · exact hg
end
end Mine
end
section
open PySem PySem.Spec PySem.Calls PyProof.Rows PySem.W
namespace Mine
variable {p : Program} {w : World} {K : Frag} {n : Nat} {env : Env} {σ : Store} {N N' : Store → Prop} {R : D → Prop} {rest : List Stmt}
/-- facts of the class and its generator expressions -/
structure KI (K : Frag) : Prop where
  iter : findIn K (.ref 125) "__iter__" = some (some (.builtin "list.__iter__"))
  sz : findIn K (.ref 125) "_initial_size" = some none
  cLen : CodeRow K 91 87
  cStr : CodeRow K 98 94
namespace F
theorem kindIter : builtinKind "list.__iter__" = some .slot := by decide +kernel
theorem splitIter : splitId "list.__iter__" = some ("list", "__iter__") := by decide +kernel
end F
section
variable {A : Around} {E : Value → Shared → Prop} {s : Shared}
theorem pilIter {x dx : Addr} {vs : Array Value} {e : Nat} {Q : Value → Shared → Prop} (kc : KC K) (ki : KI K) (X : K.In s.heap) (hx : s.heap.get? x = some (pilObj dx vs e))
    (hQ : Q (.ref s.heap.objs.size) { s with heap := s.heap.push { cls := .type "list_iterator", data := .fields #[.ref x, .int 0 0] } }) : wpAny (model p w) A (pyIter (.ref x)) Q E s := by
  have ty : Looks (model p w) s.heap (typeOf (.ref x)) (.ref 125) := (Looks.ld (part := some headPart) hx).andThen .now
  have hl : Looks (model p w) s.heap (specialOf (.ref x) "__iter__") (some (.builtin "list.__iter__")) := ty.andThen (looks_findIn X ki.iter)
  have hc : wpAny (model p w) A (call (.builtin "list.__iter__") [.ref x]) (fun it s' => ∃ T' r, s'.TypeIs it T' ∧ typeLookup (.type T') "__next__" = pure (some r) ∧ Q it s') E s := by
    refine wpAny_call (codeAny_call_builtin PySem.slot_list_iter.plain PySem.entry_list_iter (check_slot F.kindIter F.splitIter (subL kc X hx rfl _) (PySem.args_list_iter _) ?_))
    show wpAny _ _ (do ret (← newFields "list_iterator" [.ref x, rawInt 0])) _ _ s
    exact wpAny_bind (wpAny_newObj_type (wpAny_pure ⟨"list_iterator", _, ⟨_, Heap.get?_push_size _ rfl, rfl⟩, slot_listiter_next.lookup, hQ⟩))
  unfold pyIter
  refine wpAny_bind (hl.here ?_)
  show wpAny _ A (callSpecialIfBoundUnlessNone? (.ref x) "__iter__" _ >>= _) Q E s
  refine wpAny_bind ?_
  simp only [callSpecialIfBoundUnlessNone?, bindSpecialIfBound?]
  refine wpAny_holding (wpAny_bind (wpAny_bind (hl.here ?_)))
  simp only [PySem.slot_list_iter.bind]
  refine wpAny_bind (wpAny_askSetting (wpAny_ite ?_))
  have fin : ∀ {Q' : Option Value → Shared → Prop}, wpAny (model p w) A (call (.builtin "list.__iter__") [.ref x]) (fun v => Q' (some v)) E s → ∀ (refuse : Sem Value), wpAny (model p w) A (if (Value.builtin "list.__iter__" == Value.none) = true then (refuse >>= fun v => pure (some v)) else (call (.builtin "list.__iter__") [.ref x] >>= fun v => pure (some v))) Q' E s := fun hc' refuse => by
    rw [if_neg (show ¬ ((Value.builtin "list.__iter__" == Value.none) = true) by decide)]
    exact wpAny_bind (wpAny_mono hc' (fun v s' h' => wpAny_pure h') fun _ _ h' => h')
  have hc2 := wpAny_mono hc (Q' := fun it s' => wpAny (model p w) A (do match ← specialOf it "__next__" with
        | none => (do rule "iter.non-iterator"; raiseError "TypeError" s!"iter() returned non-iterator of type '{← typeNameOf it}'")
        | some _ => pure it) Q E s') (fun it s' ⟨T', r, hT', hl', hQ'⟩ => wpAny_bind (wpAny_specialOf hT' hl' (wpAny_pure hQ'))) fun _ _ x => x
  split
  · exact wpAny_bind (wpAny_pure (wpAny_pure (fin hc2 _)))
  · exact wpAny_tryCatch (wpAny_bind (wpAny_pure (wpAny_pure (fin hc2 _))))
end
end Mine
end
section
open PySem PySem.Spec PySem.Calls PyProof.Rows PySem.W
namespace Mine
variable {p : Program} {w : World} {K : Frag} {n : Nat} {env : Env} {σ : Store} {N N' : Store → Prop} {R : D → Prop} {rest : List Stmt}
/-- an object of items, of whatever class -/
noncomputable def IsSeq (h : Heap) (l : Addr) (vs : Array Value) : Prop := ∃ o e, h.get? l = some o ∧ o.data = .seq vs e
theorem IsSeq.ext {h h' : Heap} {l b : Addr} {vs : Array Value} (x : IsSeq h l vs) (hs : Heap.ExtBut b h h') (hn : l ≠ b) : IsSeq h' l vs := let ⟨o, e, h1, h2⟩ := x; ⟨o, e, hs _ _ hn h1, h2⟩
section
variable {A : Around} {E : Value → Shared → Prop} {s : Shared}
theorem seqNext {it l : Addr} {i : Nat} {items : Array Value} {v : Value} {Q : Option Value → Shared → Prop} (hit : s.heap.IsListIter it l i) (hl : IsSeq s.heap l items) (hv : items[i]? = some v)
    (hQ : ∀ h', h'.IsListIter it l (i + 1) → Heap.SameBut it s.heap h' → Q (some v) { s with heap := h' }) : wpAny (model p w) A (pyNext (.ref it)) Q E s := by
  obtain ⟨o, ho, hc, hd⟩ := id hit
  obtain ⟨ol, nl, hol, hdl⟩ := hl
  have up : (s.heap.update it (Obj.mapFields fun vs => vs.set! 1 (rawInt ((i : Int) + 1)))).IsListIter it l (i + 1) :=
    ⟨_, Heap.get?_update_self _ ho (Obj.isFreed_of_fields (Obj.data_mapFields hd _)), (Obj.cls_mapFields ..).trans hc, by rw [Obj.data_mapFields hd]; simp [rawInt]⟩
  have hn : ¬ ((Value.ref l == Value.none) = true) := Bool.false_ne_true
  unfold pyNext
  refine wpAny_bind (wpAny_attempt (wpAny_callSpecial?_slot (name := Str.ofString "__next__") hit.typeIs slot_listiter_next (wpAny_call_entry slot_listiter_next hit.typeIs entry_listiter_next ?_ (args_listiter_next _))))
  show wpAny _ _ (field (.ref it) 0 >>= _) _ _ s
  refine wpAny_bind (wpAny_field ho hd (x := .ref l) rfl ?_)
  show wpAny _ _ (if (Value.ref l == Value.none) = true then _ else (field (.ref it) 1 >>= _)) _ _ s
  rw [if_neg hn]
  refine wpAny_bind (wpAny_field ho hd (x := .int i 0) rfl ?_)
  show wpAny _ _ (seqItems? (.ref l) >>= _) _ _ s
  refine wpAny_bind (wpAny_seqItems hol hdl ?_)
  simp only [Int.toNat_natCast, hv]
  exact wpAny_bind (wpAny_setField ho hd (by simp) (wpAny_pure ⟨v, rfl, wpAny_pure (hQ _ up (Heap.SameBut.update ..))⟩))
theorem seqEnd {it l : Addr} {i : Nat} {items : Array Value} {Q : Option Value → Shared → Prop} (hh : A.handled = none) (hit : s.heap.IsListIter it l i) (hl : IsSeq s.heap l items) (hv : items[i]? = none)
    (hQ : ∀ h', Heap.ExtBut it s.heap h' → Q none { s with heap := h' }) : wpAny (model p w) A (pyNext (.ref it)) Q E s := by
  obtain ⟨o, ho, hc, hd⟩ := id hit
  obtain ⟨ol, nl, hol, hdl⟩ := hl
  have hn : ¬ ((Value.ref l == Value.none) = true) := Bool.false_ne_true
  unfold pyNext
  refine wpAny_bind (wpAny_attempt (wpAny_callSpecial?_slot (name := Str.ofString "__next__") hit.typeIs slot_listiter_next (wpAny_call_entry slot_listiter_next hit.typeIs entry_listiter_next ?_ (args_listiter_next _))))
  show wpAny _ _ (field (.ref it) 0 >>= _) _ _ s
  refine wpAny_bind (wpAny_field ho hd (x := .ref l) rfl ?_)
  show wpAny _ _ (if (Value.ref l == Value.none) = true then _ else (field (.ref it) 1 >>= _)) _ _ s
  rw [if_neg hn]
  refine wpAny_bind (wpAny_field ho hd (x := .int i 0) rfl ?_)
  show wpAny _ _ (seqItems? (.ref l) >>= _) _ _ s
  refine wpAny_bind (wpAny_seqItems hol hdl ?_)
  simp only [Int.toNat_natCast, hv]
  refine wpAny_bind (wpAny_rule (wpAny_bind (wpAny_setField ho hd (by simp) ?_)))
  show wpAny _ _ (newExc (.type "StopIteration") [] >>= _) _ _ _
  refine wpAny_bind ?_
  simp only [newExc, newTuple]
  refine wpAny_bind (wpAny_newObj_type ?_ (by size_fits))
  refine wpAny_bind (m := firstArgMember _ _) (wpAny_of_eq (a := Value.none) (by first | rfl | (simp only [firstArgMember]; rfl)) ?_)
  refine wpAny_newObj_type ?_ (by size_fits)
  simp only [raiseNew]
  refine wpAny_bind (wpAny_handled ?_)
  rw [show A.in1.handled = none from hh]
  refine wpAny_bind (wpAny_pure (wpAny_throw ?_))
  refine wpAny_bind (wpAny_isInstance (T := "StopIteration") (b := true) ⟨_, Heap.get?_push_size _ rfl, rfl⟩ isSubtype_stop ?_)
  exact wpAny_pure (hQ _ (((Heap.SameBut.update ..).extBut.push _).push _))

theorem IsSeq.at {h h' : Heap} {l : Addr} {vs : Array Value} (x : IsSeq h l vs) (k : ∀ o, h.get? l = some o → h'.get? l = some o) : IsSeq h' l vs := let ⟨o, e, h1, h2⟩ := x; ⟨o, e, k _ h1, h2⟩
/-- the walk over a pile of pairs -/
theorem walkPil (hh : A.handled = none) (I ax : Addr) (hne : ax ≠ I) (items : Array Value) (Ts : Nat → Addr) (vals : Nat → Array Value)
    (hit : ∀ j, j < items.size → items[j]? = some (.ref (Ts j))) (hTI : ∀ j, j < items.size → Ts j ≠ I) :
    WalksU p w A I (I :: ax :: (List.range items.size).map Ts) [I] items.size (fun j v => v = vals j)
      (fun j h => h.IsListIter I ax j ∧ IsSeq h ax items ∧ ∀ k, k < items.size → h.IsTuple (Ts k) (vals k))
      (fun j T h => (j < items.size ∧ T = Ts j) ∧ h.IsListIter I ax (j + 1) ∧ IsSeq h ax items ∧ ∀ k, k < items.size → h.IsTuple (Ts k) (vals k)) where
  sub := fun b hb => by simp at hb; simp [hb]
  frame := fun _ _ _ st hk => ⟨st.1.at fun o e => hk I (by simp) o e, st.2.1.at fun o e => hk ax (by simp) o e,
    fun k hk' => (st.2.2 k hk').at fun o e => hk (Ts k) (List.mem_cons_of_mem _ (List.mem_cons_of_mem _ (List.mem_map.mpr ⟨k, List.mem_range.mpr hk', rfl⟩))) o e⟩
  item := fun i s Q E hi st hQ => by
    refine seqNext st.1 st.2.1 (v := .ref (Ts i)) (hit i hi) fun h' hit' hs' => ?_
    have tup : ∀ k, k < items.size → h'.IsTuple (Ts k) (vals k) := fun k hk' => (st.2.2 k hk').extBut hs'.extBut (hTI k hk')
    exact hQ (Ts i) (vals i) h' s.toks rfl (tup i hi) ⟨⟨hi, rfl⟩, hit', st.2.1.ext hs'.extBut hne, tup⟩ fun b o hb e => hs'.extBut b o (fun h => hb (by simp [h])) e
  go := fun _ _ _ _ _ s Q _ hm hQ => wpAny_letOwnedTupleGo_listiter hm.2.1 (hQ s.heap hm.2 fun _ _ _ e => e)
  apart := fun j T _ hm hmem => by
    rcases List.mem_cons.mp hmem with e | e
    · exact hTI j hm.1.1 (hm.1.2 ▸ e)
    · cases e
  done := fun s Q E st hQ => seqEnd hh st.1 st.2.1 (by simp) fun h' he' => hQ h' s.toks fun b o hb e => he' b o (fun h => hb (by simp [h])) e
  self := fun _ _ _ _ st hQ => wpAny_pyIter_listiter st.1 hQ
end
end Mine
end
section
open PySem PySem.Spec PySem.Calls PyProof.Rows PySem.W
namespace Mine
variable {p : Program} {w : World} {K : Frag} {n : Nat} {env : Env} {σ : Store} {N N' : Store → Prop} {R : D → Prop} {rest : List Stmt}
noncomputable def valFrom (i0 : Int) (val : Nat → Int) : Nat → Int | 0 => i0 | j + 1 => val j
theorem preSum_from (i0 : Int) (val : Nat → Int) : ∀ j, preSum (valFrom i0 val) (j + 1) = i0 + preSum val j
  | 0 => by simp [preSum, valFrom]
  | j + 1 => by
    have := preSum_from i0 val j
    rw [preSum, this, preSum]
    simp only [valFrom]; omega
/-- a walk told from one on -/
theorem walkShift {A : Around} {I : Addr} {fp wr : List Addr} {G : Array GenState → Array GenState → Prop} {m : Nat} {P : Nat → Value → Prop} {St : Nat → Shared → Prop} (W : WalksS p w A I fp wr G m P St) :
    WalksS p w A I fp wr G (m + 1) (fun i v => ∃ j, i = j + 1 ∧ P j v) (fun i s => ∃ j, i = j + 1 ∧ St j s) where
  sub := W.sub
  grefl := W.grefl
  gtrans := W.gtrans
  frame := fun i s h' tk st ht hk => let ⟨j, e, x⟩ := st; ⟨j, e, W.frame j s h' tk x ht hk⟩
  item := fun i s Q E hi st hQ => by
    obtain ⟨j, rfl, x⟩ := st
    exact W.item j s Q E (Nat.lt_of_succ_lt_succ hi) x fun v s' hv hs hm => hQ v s' ⟨j, rfl, hv⟩ ⟨j + 1, rfl, hs⟩ hm
  done := fun s Q E st hQ => by
    obtain ⟨j, e, x⟩ := st
    injection e with e
    subst e
    exact W.done s Q E x hQ
  self := fun i s Q E st hQ => let ⟨j, _, x⟩ := st; W.self j s Q E x hQ
namespace F
theorem args_sum2 (a b : Value) : argsOk "sum" ⟨[a, b], []⟩ := by unfold argsOk; kernel_rfl
end F
section
variable {A : Around} {E : Value → Shared → Prop} {s : Shared}
theorem sumFrom {x : Value} {i0 : Int} {t0 : Tok} {Q : Value → Shared → Prop}
    (h : wpAny (model p w) A.in1 (pyIter x) (fun it s₂ => ∃ I fp wr G m P St val, it = .ref I ∧ WalksS p w A.in1 I fp wr G m P St ∧ St 0 s₂ ∧ (∀ b ∈ fp, b < s₂.heap.objs.size) ∧
      (∀ i v, P i v → ∃ t, v = .int (val i) t) ∧ InLong i0 ∧ (∀ j, j < m → InLong (val j) ∧ InLong (i0 + preSum val (j + 1))) ∧
      ∀ s' t', Moved wr G s₂ s' → Q (.int (i0 + preSum val m) t') s') E s) :
    wpAny (model p w) A (call (.builtin "sum") [x, .int i0 t0]) Q E s := by
  refine call_function_tree PySem.F.kind_sum PySem.F.plain_sum PySem.F.entry_sum (F.args_sum2 _ _) ?_
  unfold Builtin.«sum»
  simp only [List.length_cons, List.length_nil]
  rw [if_neg (by decide)]
  refine wpAny_bind (wpAny_of_eq (show Builtin.Builtins.bindParams "sum" ["start"] 0 ⟨[.int i0 t0], []⟩ = pure [some (.int i0 t0)] from rfl) ?_)
  refine wpAny_bind (wpAny_mono h (fun it s₂ h₂ => ?_) fun _ _ e => e)
  obtain ⟨I, fp, wr, G, m, P, St, val, rfl, W, hst, hfp, hval, h0, hfit, hQ⟩ := h₂
  have hc : (decide (-(2 ^ 63) ≤ i0) && decide (i0 < 2 ^ 63)) = true := by
    simp only [Bool.and_eq_true, decide_eq_true_eq]; exact h0
  dsimp only
  split
  · refine wpAny_bind (wpAny_rule (wpAny_bind (wpAny_mkInt (wpAny_bind (wpAny_pure ?_)))))
    simp only [List.forIn_cons, List.forIn_nil]
    refine wpAny_bind (wpAny_bind (wpAny_bind (wpAny_isInstance (T := "int") (b := false) (typeIs_int _ _ _) PySem.sub_int_str ?_)))
    simp only [Bool.false_eq_true, if_false]
    refine wpAny_pure (wpAny_bind (wpAny_bind (wpAny_isInstance (T := "int") (b := false) (typeIs_int _ _ _) PySem.sub_int_bytes ?_)))
    simp only [Bool.false_eq_true, if_false]
    refine wpAny_pure (wpAny_bind (wpAny_bind (wpAny_isInstance (T := "int") (b := false) (typeIs_int _ _ _) PySem.sub_int_bytearray ?_)))
    simp only [Bool.false_eq_true, if_false]
    refine wpAny_pure (wpAny_pure ?_)
    refine wpAny_bind (wpAny_newObj_type ?_)
    have hSf : s₂.heap.objs.size ∉ fp := fun hm => Nat.lt_irrefl _ (hfp _ hm)
    have e1 : preSum (valFrom i0 val) 1 = i0 := by rw [preSum_from]; simp [preSum]
    refine wpAny_pure ⟨plainId_quiet PySem.F.plain_sum_loop _, codeAny_sum_loopS (walkShift W) (valFrom i0 val) (fun i v hv => ?_) (fun j hj => ?_) s₂.heap.objs.size hSf m 1 _ s₂.toks 0 (by omega) (by omega)
      ⟨0, rfl, W.frame 0 s₂ _ _ hst (by first | exact Nat.le_refl _ | exact Nat.le_succ _ | omega) fun b _ o e => Heap.get?_push_of_some _ e⟩ (by rw [e1]; exact Heap.get?_push_size _ rfl) fun s' t' hm => ?_⟩
    · obtain ⟨j, rfl, hj⟩ := hv
      exact hval j v hj
    · cases j with
      | zero => exact ⟨h0, by rw [preSum_from]; simpa [preSum] using h0⟩
      | succ j => rw [preSum_from]; exact hfit j (by omega)
    · rw [preSum_from]
      exact hQ s' t' (hm.drop_new (by first | exact Nat.le_refl _ | exact Nat.le_succ _ | omega))
  · rename_i hneg
    exact absurd hc hneg
end
end Mine
end
section
open PySem PySem.Spec PySem.Calls PyProof.Rows PySem.W
namespace Mine
variable {p : Program} {w : World} {K : Frag} {n : Nat} {env : Env} {σ : Store} {N N' : Store → Prop} {R : D → Prop} {rest : List Stmt}
/-- the globals in place, of a heap of which some was written on -/
structure Gl (K : Frag) (h : Heap) : Prop where
  kin : K.In h
  g : ∃ mg, h.Ns mainGlobals mg
  b : ∃ mb, h.Ns builtinsNs mb ∧ ∀ x : Str, x ≠ "__name__" → mb x = bootBuiltins x
theorem Wd.gl {h : Heap} (W : Wd p w K h) : Gl K h := ⟨W.kin, W.g, W.b⟩
theorem Wd.bfor {M : Model} {A : Around} {E : Value → Shared → Prop} {s : Shared} {Q : Addr → Shared → Prop} {r : Addr} (W : Wd p w K s.heap) (h : Q builtinsNs s) : wpAny M A (builtinsFor mainGlobals r) Q E s := by
  obtain ⟨mg, bm, ob, _, x⟩ := W.bm
  exact wpAny_builtinsFor x.ns x.name x.ne x.obj x.cls x.dict x.data h
section
variable {A : Around} {E : Value → Shared → Prop} {s : Shared}
/-- a built-in's name, in a function -/
theorem Gl.bi {M : Model} {x : Str} {v : Value} {pos : Pos} {Q : Value → Shared → Prop} (G : Gl K s.heap) (hno : nsIn K mainGlobals x = some none) (hg : env.globals = mainGlobals) (hb : env.builtins = builtinsNs) (hk : env.scope.kind = .function) (hx : env.kindOf x = some .globalImplicit)
    (hbx : bootBuiltins x = some v) (hne : x ≠ "__name__") (hd : (x == ("__debug__" : Str)) = false) (h : Q v s) : wpAny M A (eval (.Name x pos) env) Q E s := by
  obtain ⟨mg, hG⟩ := G.g
  obtain ⟨mb, hB, hf⟩ := G.b
  exact Name_function_global hk hx (loadGlobal_builtin (by rw [hg]; exact hG) (mg_none_of G.kin hG hno) (by rw [hb]; exact hB) ((hf x hne).trans hbx) h) hd
/-- len of a word that a name bears -/
theorem lenName {x : Str} {y : Str} {t : Tok} {m : Str → Option Value} {p1 p2 p3 : Pos} {Q : Value → Shared → Prop} (kx : KX K) (G : Gl K s.heap) (hg : env.globals = mainGlobals) (hb : env.builtins = builtinsNs) (hk : env.scope.kind = .function) (hl : env.kindOf "len" = some .globalImplicit)
    (hx : env.kindOf x = some .local) (hd : (x == ("__debug__" : Str)) = false) (hn : s.heap.Ns env.locals m) (hm : m x = some (.str y t)) (hz : y.length ≤ sizeLine) (hQ : ∀ t' tk, Q (.int y.length t') { s with toks := tk })
    (he : starEach [.Name x p2] env = (false, eval (.Name x p2) env) :: starEach [] env := by rfl) : wpAny (model p w) A (eval (.Call (.Name "len" p1) [.Name x p2] [] p3) env) Q E s := by
  rw [arm_eval_Call_Name']
  refine wpAny_bind (G.bi (kx.b "len" (by decide)) hg hb hk hl (v := .builtin "len") (by rfl) (by decide) (by decide) ?_)
  have hns : (backTo p3 (starEach [.Name x p2] env)).any (·.1) = false := by rw [he]; rfl
  refine callWith_of (P := K.In) (by rw [hns]; rfl) PlainF.bi (evArgs hns (spliced_more (wpAny_Name (wpAny_loadName_local hk hx hn hm (spliced_none ⟨G.kin, ?_⟩)) hd) he))
  exact len_str (by have := hz; simp only [sizeLine] at this; omega) (hQ _ _)
end
end Mine
end
section
open PySem PySem.Spec PySem.Calls PyProof.Rows PySem.W
namespace Mine
variable {p : Program} {w : World} {K : Frag} {n : Nat} {env : Env} {σ : Store} {N N' : Store → Prop} {R : D → Prop} {rest : List Stmt}
/-- the parts of a pile -/
noncomputable def PairsAt (h : Heap) (us : List Value) (ps : List (Str × Str)) : Prop := us.length = ps.length ∧ ∀ (j : Nat) (a b : Str), ps[j]? = some (a, b) → ∃ T o ta tb, us[j]? = some (.ref T) ∧ h.get? T = some o ∧ IsT o [.str a ta, .str b tb]
/-- a generator at its start, which writes above z alone -/
noncomputable def GenP (p : Program) (w : World) (A : Around) (z a : Nat) (m : Nat) (F : Nat → Value → Prop) (s : Shared) : Prop :=
  ∃ fp wr g St, WalksS p w A.in4 a fp wr (GenOnlyQ g) m F St ∧ St 0 s ∧ (∀ i s', St i s' → s'.TypeIs (.ref a) "generator") ∧ a ∈ fp ∧ (∀ b ∈ fp, b < s.heap.objs.size) ∧ ∀ b ∈ wr, z ≤ b
theorem walkImp {A : Around} {I : Addr} {fp wr : List Addr} {G : Array GenState → Array GenState → Prop} {m : Nat} {P P' : Nat → Value → Prop} {St : Nat → Shared → Prop} (W : WalksS p w A I fp wr G m P St) (hi : ∀ i v, i < m → P i v → P' i v) : WalksS p w A I fp wr G m P' St where
  sub := W.sub
  grefl := W.grefl
  gtrans := W.gtrans
  frame := W.frame
  item := fun i s Q E hlt st hQ => W.item i s Q E hlt st fun v s' hv hs hm => hQ v s' (hi i v hlt hv) hs hm
  done := W.done
  self := W.self
theorem passAll (m : Nat) : passing (fun _ => true) m 0 = List.range m := by unfold passing; simp
theorem Gl.of {h h' : Heap} (W : Wd p w K h) (k : ∀ b o, b ≠ tA → b ≠ tB → h.get? b = some o → h'.get? b = some o) : Gl K h' where
  kin := fun a o e => k a o (W.kok.off a o e).1 (W.kok.off a o e).2 (W.kin a o e)
  g := let ⟨mg, o, es, ep, ho, hd, r⟩ := W.g; ⟨mg, o, es, ep, k _ _ (W.off ho (not_tab_dict hd)).1 (W.off ho (not_tab_dict hd)).2 ho, hd, r⟩
  b := let ⟨mg, ⟨o, es, ep, ho, hd, r⟩, q⟩ := W.b; ⟨mg, ⟨o, es, ep, k _ _ (W.off ho (not_tab_dict hd)).1 (W.off ho (not_tab_dict hd)).2 ho, hd, r⟩, q⟩
section
variable {A : Around} {E : Value → Shared → Prop} {s : Shared}
noncomputable def tsOf (us : List Value) (j : Nat) : Addr := match us[j]? with | some (.ref T) => T | _ => 0
noncomputable def vsOf (h : Heap) (us : List Value) (j : Nat) : Array Value := match h.get? (tsOf us j) with | some o => (match o.data with | .seq v _ => v | _ => #[]) | none => #[]
theorem PairsAt.at {h : Heap} {us : List Value} {ps : List (Str × Str)} (pr : PairsAt h us ps) {j : Nat} (hj : j < us.length) : ∃ a b T o ta tb, ps[j]? = some (a, b) ∧ us[j]? = some (.ref T) ∧ tsOf us j = T ∧ h.get? T = some o ∧ IsT o [.str a ta, .str b tb] ∧ vsOf h us j = #[.str a ta, .str b tb] := by
  have hj' : j < ps.length := pr.1 ▸ hj
  have e : ps[j]? = some (ps[j].1, ps[j].2) := by simp [hj']
  obtain ⟨T, o, ta, tb, h1, h2, h3⟩ := pr.2 j _ _ e
  have h4 : tsOf us j = T := by unfold tsOf; rw [h1]
  refine ⟨_, _, T, o, ta, tb, e, h1, h4, h2, h3, ?_⟩
  unfold vsOf
  rw [h4, h2]
  obtain ⟨m, rfl⟩ := h3
  rfl
set_option maxHeartbeats 1000000 in
theorem genPil {x dx c P : Addr} {us : List Value} {ps : List (Str × Str)} {e : Nat} {elt : Expr} {pa pb pt ps0 pos : Pos} {kt : Nat} {scope : Scope} {m : Str → Option Value} {F : Nat → Value → Prop} {Q : Value → Shared → Prop}
    (kx : KX K) (kc : KC K) (ki : KI K) (W : Wd p w K s.heap) (hh : A.handled = none) (hroom : A.depth < recursionLimit) (hg : env.globals = mainGlobals) (hk : env.scope.kind = .function) (hself : env.kindOf "self" = some .local) (hn : s.heap.Ns env.locals m) (hm : m "self" = some (.ref x))
    (hx : s.heap.get? x = some (pilObj dx us.toArray e)) (hcode : env.code = .ref c) (r : CodeRow K c P) (hP : P = tA ∨ P = tB) (pr : PairsAt s.heap us ps)
    (hco : scope.isCoroutine = false) (hclos : closureFor scope env = pure []) (hcell : ∀ y ∈ scope.names, y.2 ≠ .cell) (h0 : scope.names.lookup (".0" : Str) = some NameKind.local)
    (hxa : scope.names.lookup ("fws" : Str) = some .local) (hxb : scope.names.lookup ("part" : Str) = some .local) (hkind : scope.kind = .function)
    (helt : ∀ (A' : Around) (E' : Value → Shared → Prop) (C : Addr) (code : Value) i a b ta tb (s₂ : Shared) m₂, A'.handled = none → ps[i]? = some (a, b) → Gl K s₂.heap → s₂.heap.Ns C m₂ → m₂ "fws" = some (.str a ta) → m₂ "part" = some (.str b tb) →
      wpAny (model p w) A' (eval elt (genEnv scope [] C code builtinsNs env)) (fun y s₃ => F i y ∧ Keeps s₂ s₃) E' s₂)
    (hQ : ∀ a s₅, GenP p w A s.heap.objs.size a ps.length F s₅ → Sh s s₅ → Q (.ref a) s₅) :
    wpAny (model p w) A (eval (.GeneratorExp elt [⟨.Tuple [.Name "fws" pa, .Name "part" pb] kt pt, .Name "self" ps0, [], 0⟩] scope pos) env) Q E s := by
  refine wpAny_GeneratorExp_walksQT hh hco hclos hcell h0 hxa hxb (by decide) hkind hroom ?_ (fun _ => rfl)
  refine wpAny_Name (wpAny_loadName_local hk hself hn hm ?_) (by decide)
  refine pilIter kc ki W.kin hx ⟨W.lim.push _, ?_⟩
  have W1 : Wd p w K (s.heap.push { cls := .type "list_iterator", data := .fields #[.ref x, .int 0 0] }) := W.kp (.push _ _)
  refine genCode W1 hcode r hP fun code h₃ tk₃ hk₃ hsz hP₃ => ?_
  have W3 : Wd p w K h₃ := W1.kp hk₃
  rw [hg]
  refine W3.bfor ?_
  have hIs : (s.heap.push { cls := .type "list_iterator", data := .fields #[.ref x, .int 0 0] }).objs.size = s.heap.objs.size + 1 := Heap.size_push ..
  have hsz' : s.heap.objs.size + 1 ≤ h₃.objs.size := by rw [← hIs]; exact hsz
  have notP : ∀ {b : Addr} {o : Obj}, s.heap.get? b = some o → (∀ q, o ≠ PySem.W.X.tableObj q) → b ≠ P := fun hb hno q => by
    rcases hP with rfl | rfl
    · exact (W.off hb hno).1 q
    · exact (W.off hb hno).2 q
  have lift : ∀ {b : Addr} {o : Obj}, s.heap.get? b = some o → (∀ q, o ≠ PySem.W.X.tableObj q) → h₃.get? b = some o := fun hb hno => hP₃ _ _ (notP hb hno) (Heap.get?_push_of_some _ hb)
  have hne : x ≠ s.heap.objs.size := Nat.ne_of_lt (Heap.lt_size hx)
  have hus : us.toArray.size = us.length := by simp
  have hit : ∀ j, j < us.toArray.size → us.toArray[j]? = some (.ref (tsOf us j)) := fun j hj => by
    obtain ⟨a, b, T, o, ta, tb, h1, h2, h3, _⟩ := pr.at (hus ▸ hj)
    rw [h3]; simpa using h2
  have hTI : ∀ j, j < us.toArray.size → tsOf us j ≠ s.heap.objs.size := fun j hj => by
    obtain ⟨a, b, T, o, ta, tb, h1, h2, h3, h4, _⟩ := pr.at (hus ▸ hj)
    rw [h3]; exact Nat.ne_of_lt (Heap.lt_size h4)
  have htup : ∀ j, j < us.toArray.size → h₃.IsTuple (tsOf us j) (vsOf s.heap us j) := fun j hj => by
    obtain ⟨a, b, T, o, ta, tb, h1, h2, h3, h4, h5, h6⟩ := pr.at (hus ▸ hj)
    rw [h3, h6]
    have hT := lift h4 (not_tab_cls h5.cls)
    obtain ⟨q, rfl⟩ := h5
    exact ⟨_, hT, rfl, q, rfl⟩
  have hI : h₃.IsListIter s.heap.objs.size x 0 := ⟨_, hP₃ _ _ (fun q => by
    obtain ⟨qs, hq, _⟩ := W.ta
    obtain ⟨qs', hq', _⟩ := W.tb
    rcases hP with rfl | rfl
    · exact absurd (Heap.lt_size hq) (by rw [← q]; exact Nat.lt_irrefl _)
    · exact absurd (Heap.lt_size hq') (by rw [← q]; exact Nat.lt_irrefl _)) (Heap.get?_push_size _ rfl), rfl, rfl⟩
  have hseq : IsSeq h₃ x us.toArray := ⟨_, e, lift hx (not_tab_cls (by intro q; cases q)), rfl⟩
  have up : ∀ b o, b ≠ tA → b ≠ tB → s.heap.get? b = some o → h₃.get? b = some o := fun b o ha hb hbo => hP₃ b o (by rcases hP with rfl | rfl <;> assumption) (Heap.get?_push_of_some _ hbo)
  refine ⟨s.heap.objs.size, _, _, _, _, _, _, (fun _ => true), F, rfl, (fun A' hA => (walkPil hA s.heap.objs.size x hne us.toArray (tsOf us) (vsOf s.heap us) hit hTI).bound), ?_, ⟨hI, hseq, htup⟩, ?_, W3.lim, ?_, ?_, ?_⟩
  · rintro i vals ⟨hi, rfl⟩
    obtain ⟨a, b, T, o, ta, tb, h1, h2, h3, h4, h5, h6⟩ := pr.at (hus ▸ hi)
    exact ⟨_, _, h6⟩
  · intro b hb
    show b < h₃.objs.size
    rcases List.mem_cons.mp hb with rfl | hb
    · exact hsz'
    · rcases List.mem_cons.mp hb with rfl | hb
      · exact Nat.lt_of_lt_of_le (Heap.lt_size hx) (Nat.le_of_succ_le hsz')
      · obtain ⟨k, hk', rfl⟩ := List.mem_map.mp hb
        obtain ⟨a, b, T, o, ta, tb, h1, h2, h3, h4, _⟩ := pr.at (hus ▸ List.mem_range.mp hk')
        rw [h3]; exact Nat.lt_of_lt_of_le (Heap.lt_size h4) (Nat.le_of_succ_le hsz')
  · intro hm'
    have h1 := List.mem_singleton.mp hm'
    obtain ⟨mc, hnc, _⟩ := W.lim
    exact absurd hnc.lt (by rw [h1]; exact Nat.lt_irrefl _)
  · intro href hhref
    have gl : ∀ {s₂ : Shared}, (∀ b ∈ List.range h₃.objs.size, b ∉ [s.heap.objs.size] → ∀ o, href.get? b = some o → s₂.heap.get? b = some o) → Gl K s₂.heap := fun k => .of W fun b o ha hb hbo =>
      k b (List.mem_range.mpr (Heap.lt_size (up b o ha hb hbo))) (by
        intro q
        rw [List.mem_singleton.mp q] at hbo
        exact Nat.lt_irrefl _ (Heap.lt_size hbo)) o (hhref _ _ (up b o ha hb hbo))
    refine ⟨fun A' E' i va vb s₂ m₂ hA _ _ _ _ _ => ?_, fun A' E' i va vb s₂ m₂ hA hv _ hn₂ ha hb k => ?_⟩
    · simp only [List.forIn_nil]
      exact wpAny_pure ⟨rfl, s₂.heap, s₂.toks, rfl, fun _ _ h => h⟩
    · obtain ⟨hi, hv⟩ := hv
      obtain ⟨a, b, T, o, ta, tb, h1, h2, h3, h4, h5, h6⟩ := pr.at (hus ▸ hi)
      rw [h6] at hv
      obtain ⟨rfl, rfl⟩ : va = .str a ta ∧ vb = .str b tb := by simpa using congrArg Array.toList hv
      exact helt A' E' _ code i a b ta tb s₂ m₂ hA h1 (gl k) hn₂ ha hb
  · intro a h₅ tk gs hgb hag hsz₅ hk₅ hwalk hat
    have ep : passing (fun _ => true) us.toArray.size 0 = List.range ps.length := by rw [passAll, hus, pr.1]
    rw [ep, List.length_range] at hwalk
    have hwalk' := walkImp (P' := F) hwalk (fun i v hi hv => by
      obtain ⟨j, hj, hv⟩ := hv
      rw [List.getElem?_range hi] at hj
      injection hj with hj
      subst hj
      exact hv)
    refine hQ a _ ⟨_, _, _, _, hwalk', hat, (fun i s' st => st.1.typeIs), List.mem_cons_self, ?_, ?_⟩ ⟨?_, rfl, fun G => G.push hgb⟩
    · intro b hb
      show b < h₅.objs.size
      rw [hsz₅]
      rcases List.mem_cons.mp hb with rfl | hb
      · exact Nat.lt_succ_self _
      · rcases List.mem_cons.mp hb with rfl | hb
        · exact Nat.lt_succ_of_lt hag
        · exact Nat.lt_succ_of_lt (Nat.lt_trans (List.mem_range.mp hb) hag)
    · intro b hb
      rcases List.mem_cons.mp hb with rfl | hb
      · exact Nat.le_of_succ_le hsz'
      · rw [List.mem_singleton.mp hb]; exact Nat.le_refl _
    · exact ((Kp.push _ _).trans hk₃).trans (.of hk₅)
end
end Mine
end
section
open PySem PySem.Spec PySem.Calls PyProof.Rows PySem.W
namespace Mine
variable {p : Program} {w : World} {K : Frag} {n : Nat} {env : Env} {σ : Store} {N N' : Store → Prop} {R : D → Prop} {rest : List Stmt}
theorem KpL.below {h h₁ h₂ : Heap} (x : Kp h h₁) (k : ∀ b o, b < h.objs.size → h₁.get? b = some o → h₂.get? b = some o) : Kp h h₂ where
  get := fun b o ha hb e => k b o (Heap.lt_size e) (x.get b o ha hb e)
  ta := fun ps e q => let ⟨mo, e', q'⟩ := x.ta ps e q; ⟨mo, k _ _ (Heap.lt_size e) e', q'⟩
  tb := fun ps e q => let ⟨mo, e', q'⟩ := x.tb ps e q; ⟨mo, k _ _ (Heap.lt_size e) e', q'⟩
theorem Sh.walked {s s₁ s₂ : Shared} {wr : List Addr} {g : Nat} (y : Sh s s₁) (m : Moved wr (GenOnlyQ g) s₁ s₂) (hwr : ∀ b ∈ wr, s.heap.objs.size ≤ b) : Sh s s₂ :=
  ⟨KpL.below y.kp fun b o hb e => m.heap b o (fun q => Nat.lt_irrefl _ (Nat.lt_of_lt_of_le hb (hwr b q))) e, m.os.trans y.os, fun G => AllBare.movedS (y.gens G) m⟩
section
variable {A : Around} {E : Value → Shared → Prop} {s s₀ : Shared}
theorem GenP.tok {z a m : Nat} {F : Nat → Value → Prop} {tk : Nat} (X : GenP p w A z a m F s) (h : s.toks ≤ tk) : GenP p w A z a m F { s with toks := tk } := by
  obtain ⟨fp, wr, g, St, W, hst, hT, ha, hfp, hwr⟩ := X
  exact ⟨fp, wr, g, St, W, W.frame 0 s s.heap tk hst h fun _ _ _ e => e, hT, ha, hfp, hwr⟩
theorem GenP.sum {a m : Nat} {F : Nat → Value → Prop} {i0 : Int} {t0 : Tok} {Q : Value → Shared → Prop} (X : GenP p w A s₀.heap.objs.size a m F s) (y : Sh s₀ s) (val : Nat → Int) (hval : ∀ j v, F j v → ∃ t, v = .int (val j) t) (h0 : InLong i0) (hfit : ∀ j, j < m → InLong (val j) ∧ InLong (i0 + preSum val (j + 1)))
    (hQ : ∀ s' t', Sh s₀ s' → Q (.int (i0 + preSum val m) t') s') : wpAny (model p w) A (call (.builtin "sum") [.ref a, .int i0 t0]) Q E s := by
  obtain ⟨fp, wr, g, St, W, hst, _, _, hfp, hwr⟩ := X
  have W := W.in4_1
  exact sumFrom (W.self 0 _ _ _ hst ⟨a, _, _, _, _, _, _, val, rfl, W, hst, hfp, hval, h0, hfit, fun s' t' hm => hQ s' t' (y.walked hm hwr)⟩)
theorem GenP.join {a m : Nat} {F : Nat → Value → Prop} {sep : Str} {t : Tok} {Q : Value → Shared → Prop} (X : GenP p w A s₀.heap.objs.size a m F s) (y : Sh s₀ s) (tx : Nat → Str) (htx : ∀ j v, F j v → ∃ u, v = .str (tx j) u) (hok : JoinOk sep ((List.range m).map tx) = true) (hsz : m ≤ sizeLine)
    (hQ : ∀ s' t', Sh s₀ s' → Q (.str (Txt.join sep ((List.range m).map tx)) t') s') : wpAny (model p w) A (call (.builtin "str.join") [.str sep t, .ref a]) Q E s := by
  obtain ⟨fp, wr, g, St, W, hst, hT, ha, hfp, hwr⟩ := X
  have W := W.in4_2
  refine SC.joinGen W hT hst hfp ha (fun j v hv => let ⟨u, e⟩ := htx j v hv; ⟨_, u, e⟩) (fun s' lt hm hacc => ?_) hsz
  have hl : lt.map (·.1) = (List.range m).map tx := by
    apply List.ext_getElem?
    intro j
    have hsz : lt.length = m := by simpa [strValues] using hacc.1
    by_cases hj : j < m
    · have hj' : j < lt.length := hsz ▸ hj
      obtain ⟨u, hv⟩ := htx j _ (hacc.2 j (.str lt[j].1 lt[j].2) (by simp [strValues, List.getElem?_eq_getElem hj']))
      injection hv with h1 _
      simp [List.getElem?_eq_getElem hj', hj, h1]
    · rw [List.getElem?_eq_none (by simpa [hsz] using Nat.le_of_not_lt hj), List.getElem?_eq_none (by simpa using Nat.le_of_not_lt hj)]
  rw [hl]
  have y' := y.walked hm hwr
  exact ⟨hok, fun t' k => hQ { s' with toks := k } t' (y'.trans (.tok s' k))⟩

namespace F
theorem kindGa : builtinKind "list.__getattribute__" = some .slot := by decide +kernel
theorem splitGa : splitId "list.__getattribute__" = some ("list", "__getattribute__") := by decide +kernel
end F
/-- an attribute of a pile's own -/
theorem pil_value {x dx : Addr} {vs : Array Value} {e : Nat} {od : Obj} {name : Str} {v : Value} {Q : Value → Shared → Prop} {expr : Bool} (kc : KC K) (X : K.In s.heap) (hx : s.heap.get? x = some (pilObj dx vs e)) (hd : s.heap.get? dx = some od)
    (hf : findObj K 125 (some od) name = some (.value v)) (hh : handedIn v = true) (h : Q v { s with toks := s.toks + 1 }) : wpAny (model p w) A (getAttr (.ref x) name expr) Q E s := by
  have I : InstAt s.heap x (pilObj dx vs e) 125 (some od) := ⟨hx, rfl, rfl, hd⟩
  obtain ⟨hp, g, d, t, os⟩ := s
  have L0 := I.type (M := model p w)
  have L1 := looks_findIn (M := model p w) X kc.ga
  have L2 := looks_findIn (M := model p w) X kc.noga
  have L3 := looks_find (M := model p w) X I hf
  unfold getAttr getAttrBy
  refine wpAny_bind (wpAny_mkText (wpAny_holding (wpAny_bind (L0.at (wpAny_bind (L1.at ?_))))))
  show wpAny _ _ (getAttrByItsOwn _ _ _ _ _ _) _ _ _
  unfold getAttrByItsOwn
  refine wpAny_bind ?_
  show wpAny _ _ (typeLookup (.ref 125) "__getattr__") _ _ _
  refine L2.at (wpAny_bind (wpAny_attempt (wpAny_holding ?_)))
  have hb : callGetattribute (.ref x) (.str name t) (.builtin "list.__getattribute__") expr = boundAndCalled (.builtin "list.__getattribute__") (.ref x) (.str name t) := by
    unfold callGetattribute
    rw [if_neg (by cases expr <;> decide)]
  rw [hb]
  unfold boundAndCalled
  simp only [PySem.F.slot_list_getattribute.bind]
  refine wpAny_bind (wpAny_pure ?_)
  refine wpAny_call ?_
  dsimp only [List.cons_append, List.nil_append]
  refine codeAny_call_builtin PySem.F.slot_list_getattribute.plain PySem.F.entry_list_ga ?_
  have L4 : Looks (model p w) hp (isInstance (.ref x) (.type "list")) true := subL kc X hx rfl _
  have ha := PySem.F.args_list_getattribute_2 (.ref x) (.str name t)
  refine @check_slot (model p w) _ _ _ "list.__getattribute__" "list" "__getattribute__" (.ref x) [.str name t] [] _ F.kindGa F.splitGa ?_ ?_ ?_
  · exact L4
  · exact ha
  refine wpAny_bind (wpAny_pure (wpAny_bind (wpAny_pure (wpAny_bind (L0.at (wpAny_bind (L3.at ?_)))))))
  refine wpAny_pure ?_
  show wpAny _ _ (handedOut v) _ _ _
  rw [handedOut_of hh]; exact wpAny_pure h
theorem getSize {x dx : Addr} {vs : Array Value} {e : Nat} {od : Obj} {first : Int} {Q : Value → Shared → Prop} {expr : Bool} (kc : KC K) (ki : KI K) (X : K.In s.heap) (hx : s.heap.get? x = some (pilObj dx vs e)) (hd : s.heap.get? dx = some od) (hs : SzObj first od)
    (hQ : ∀ t, Q (.int first t) { s with toks := s.toks + 1 }) : wpAny (model p w) A (getAttr (.ref x) "_initial_size" expr) Q E s := by
  have I : InstAt s.heap x (pilObj dx vs e) 125 (some od) := ⟨hx, rfl, rfl, hd⟩
  obtain ⟨hs', t, t', k, rfl⟩ := hs
  obtain ⟨oc, od', cd, sl, hC, e1, e2, hl, e3, e5⟩ := kc.obj
  have hcC : clsIn K 125 = some cd := by unfold clsIn; rw [hC]
  refine pil_value (v := .int first t) kc X hx hd ?_ rfl (hQ t)
  unfold findObj
  rw [hcC, ki.sz]
  simp only [Option.bind_some]
  unfold PySem.W.ownOf
  rw [e5]
  simp [lookIn, Value.isStr, DictEntry.refKey]
end
end Mine
end
section
open PySem PySem.Spec PySem.Calls PyProof.Rows PySem.W
namespace Mine
variable {p : Program} {w : World} {K : Frag} {n : Nat} {env : Env} {σ : Store} {N N' : Store → Prop} {R : D → Prop} {rest : List Stmt}
noncomputable def lens (ps : List (Str × Str)) : List Int := ps.map fun q => (q.1.length : Int) + q.2.length
theorem lens_at {ps : List (Str × Str)} {i : Nat} {a b : Str} (h : ps[i]? = some (a, b)) : (lens ps).getD i 0 = (a.length : Int) + b.length := by
  unfold lens
  rw [List.getD_eq_getElem?_getD, List.getElem?_map, h]; rfl
theorem lens_bd {ps : List (Str × Str)} (hz : ∀ q ∈ ps, q.1.length ≤ 1000 ∧ q.2.length ≤ 1000) (i : Nat) : 0 ≤ (lens ps).getD i 0 ∧ (lens ps).getD i 0 ≤ 2000 := by
  cases h : ps[i]? with
  | none =>
    unfold lens
    rw [List.getD_eq_getElem?_getD, List.getElem?_map, h]
    exact ⟨Int.le_refl _, by decide⟩
  | some q =>
    obtain ⟨a, b⟩ := q
    rw [lens_at h]
    have := hz _ (List.mem_of_getElem? h)
    simp only at this
    omega
theorem pre_bd {ps : List (Str × Str)} (hz : ∀ q ∈ ps, q.1.length ≤ 1000 ∧ q.2.length ≤ 1000) : ∀ j, 0 ≤ preSum (fun i => (lens ps).getD i 0) j ∧ preSum (fun i => (lens ps).getD i 0) j ≤ 2000 * j
  | 0 => by simp [preSum]
  | j + 1 => by
    have h1 := pre_bd hz j
    have h2 := lens_bd hz j
    unfold preSum
    omega
section
variable {A : Around} {E : Value → Shared → Prop} {s : Shared}
/-- the call of a built-in by its name -/
theorem callBi {x : Str} {fp pos : Pos} {f : Value} {args : List Expr} {Q : Value → Shared → Prop} (hk : PlainF p w K f) (hns : (backTo pos (starEach args env)).any (·.1) = false)
    (h : wpAny (model p w) A (eval (.Name x fp) env) (fun v s' => v = f ∧ wpAny (model p w) A (spliced (backTo pos (starEach args env))) (fun vs s'' => K.In s''.heap ∧ wpAny (model p w) A (call f vs) Q E s'') E s') E s) :
    wpAny (model p w) A (eval (.Call (.Name x fp) args [] pos) env) Q E s := by
  rw [arm_eval_Call_Name']
  refine wpAny_bind (wpAny_mono h (fun v s' h' => ?_) fun _ _ z => z)
  obtain ⟨rfl, h'⟩ := h'
  exact callWith_of (P := K.In) (by rw [hns]; rfl) hk (evArgs hns h')

theorem evalAttr {M : Model} {value : Expr} {attr : Str} {pos : Pos} {Q : Value → Shared → Prop} (h : wpAny M A (attributeBase value attr env (eval value env)) (fun o s₁ => wpAny M A (getAttr o attr true) (fun r s₂ => wpAny M A (letTemporaryGo value o r) (fun _ s₃ => Q r s₃) E s₂) E s₁) E s) :
    wpAny M A (eval (.Attribute value attr pos) env) Q E s := by
  rw [arm_eval_Attribute]
  exact wpAny_bind (wpAny_mono h (fun o s₁ h₁ => wpAny_bind (wpAny_standAt (wpAny_bind (wpAny_holding (wpAny_mono h₁ (fun r s₂ h₂ => wpAny_bind (wpAny_mono h₂ (fun _ s₃ h₃ => wpAny_pure h₃) fun _ _ z => z)) fun _ _ z => z))))) fun _ _ z => z)

set_option maxHeartbeats 1000000 in
/-- the length of a pile -/
theorem len_call {x dx : Addr} {us : List Value} {ps : List (Str × Str)} {e : Nat} {od : Obj} {first : Int} {R : Result → Shared → Prop} (kx : KX K) (kc : KC K) (km : KM p K) (ki : KI K) (W : Wd p w K s.heap) (hh : A.handled = none) (hroom : A.depth + 1 < recursionLimit)
    (hx : s.heap.get? x = some (pilObj dx us.toArray e)) (hd : s.heap.get? dx = some od) (hsz : SzObj first od) (pr : PairsAt s.heap us ps) (hz : ∀ q ∈ ps, q.1.length ≤ 1000 ∧ q.2.length ≤ 1000) (hl : ps.length ≤ 900) (hf : 0 ≤ first ∧ first ≤ 1000)
    (hR : ∀ s' t, Sh s s' → R (.ok (.ret (.int (first + (lens ps).sum) t))) s') : codeAny (model p w) A (.call (.ref 92) ⟨[.ref x], []⟩) R s := by
  refine W.callDef km.len (by omega) (body := _) rfl (BindsTo.of_eq (binds := [(("self" : Str), Value.ref x)]) rfl) (by decide) (by intro y hy; rw [List.mem_singleton.mp hy]; rfl) rfl rfl rfl fun L h₀ tk hL hn k => ?_
  have W1 : Wd p w K h₀ := W.kp (.of k)
  have pr1 : PairsAt h₀ us ps := ⟨pr.1, fun j a b hj => let ⟨T, o, ta, tb, h1, h2, h3⟩ := pr.2 j a b hj; ⟨T, o, ta, tb, h1, k _ _ h2, h3⟩⟩
  have y0 : Sh s { s with heap := h₀, toks := tk } := .mk' (.of k)
  refine ks_wpAt_execs_cons (ks_wpAt_Return_some (wpAt_of_wpAny ?_))
  refine callBi (K := K) (f := .builtin "sum") PlainF.bi rfl ?_
  refine W1.gl.bi (kx.b "sum" (by decide)) rfl rfl rfl rfl (v := .builtin "sum") (by rfl) (by decide) (by decide) ⟨rfl, ?_⟩
  refine spliced_more (genPil (F := fun i y => ∃ t, y = .int ((lens ps).getD i 0) t) kx kc ki W1 hh (by simp only [Around.deeper]; omega) rfl rfl rfl hn rfl (k _ _ hx) rfl ki.cLen (.inl rfl) pr1 rfl rfl (by decide) rfl rfl rfl rfl ?_ ?_) rfl
  · intro A' E' C code i a b ta tb s₂ m₂ hA hi G hn₂ ha hb
    have hq := hz _ (List.mem_of_getElem? hi)
    refine wpAny_BinOp (lenName kx G rfl rfl rfl rfl rfl (by decide) hn₂ ha (Nat.le_trans hq.1 (by decide)) fun t1 tk1 => ?_)
    refine lenName (s := { s₂ with heap := s₂.heap, toks := tk1 }) kx G rfl rfl rfl rfl rfl (by decide) hn₂ hb (Nat.le_trans hq.2 (by decide)) fun t2 tk2 => ?_
    exact add_int ⟨⟨_, by rw [lens_at hi]⟩, s₂.heap, _, rfl, fun _ _ z => z⟩
  · intro a s₅ X y
    have W5 : Wd p w K s₅.heap := W1.kp y.kp
    have hx5 := W1.keeps y.kp (k _ _ hx) (not_tab_cls (by intro q; cases q))
    have hd5 := W1.keeps y.kp (k _ _ hd) (not_tab_cls (by obtain ⟨_, _, _, _, rfl⟩ := hsz; intro q; cases q))
    refine spliced_more (evalAttr ?_) rfl
    refine wpAny_Name (wpAny_loadName_local rfl rfl (W1.ns y.kp hn) (v := .ref x) rfl ?_) (by decide)
    refine getSize kc ki W5.kin hx5 hd5 hsz fun t2 => ?_
    refine wpAny_pure (spliced_none ⟨W5.kin, ?_⟩)
    have yy : Sh { s with heap := h₀, toks := tk } { s₅ with toks := s₅.toks + 1 } := y.trans (.tok s₅ _)
    have X' := X.tok (tk := s₅.toks + 1) (Nat.le_succ _)
    refine X'.sum (s₀ := { s with heap := h₀, toks := tk }) yy (fun i => (lens ps).getD i 0) (fun j v h => h) (by unfold InLong; omega) (fun j hj => ?_) fun s' t' y' => ?_
    · have h1 := lens_bd hz j
      have h2 := pre_bd hz (j + 1)
      have h3 : ((j + 1 : Nat) : Int) ≤ 900 := by omega
      unfold InLong
      refine ⟨by omega, ?_⟩
      have h4 : (2000 : Int) * ((j + 1 : Nat) : Int) ≤ 1800000 := by omega
      omega
    · have e1 : ps.length = (lens ps).length := by unfold lens; rw [List.length_map]
      rw [e1, preSum_take _ _ (Nat.le_refl _), List.take_length]
      exact hR s' t' (y0.trans y')
end
end Mine
end
section
open PySem PySem.Spec PySem.Calls PyProof.Rows PySem.W
namespace Mine
variable {p : Program} {w : World} {K : Frag} {n : Nat} {env : Env} {σ : Store} {N N' : Store → Prop} {R : D → Prop} {rest : List Stmt}
noncomputable def glued (ps : List (Str × Str)) : List Str := ps.map fun q => Txt.join "" [q.1, q.2]
section
variable {A : Around} {E : Value → Shared → Prop} {s : Shared}
theorem Gl.gl {M : Model} {x : Str} {v : Value} {pos : Pos} {Q : Value → Shared → Prop} (G : Gl K s.heap) (hno : nsIn K mainGlobals x = some (some v)) (hg : env.globals = mainGlobals) (hk : env.scope.kind = .function) (hx : env.kindOf x = some .globalImplicit)
    (hd : (x == ("__debug__" : Str)) = false) (h : Q v s) : wpAny M A (eval (.Name x pos) env) Q E s := by
  obtain ⟨mg, hG⟩ := G.g
  exact Name_function_global hk hx (loadGlobal_global (by rw [hg]; exact hG) (mg_of G.kin hG hno) h) hd
theorem strJoinCall {args : List Expr} {o : Expr} {apos pos : Pos} {x : Str} {t : Tok} {Q : Value → Shared → Prop} (hns : (backTo pos (starEach args env)).any (·.1) = false) (hbase : attributeBase o "join" env (eval o env) = eval o env)
    (hfew : ((backTo pos (starEach args env)).all (fun x => !x.1) && (backToKw pos (keywordEach [] env)).all (fun x => x.1.isSome) && decide (args.length + ([] : List Keyword).length + (if ([] : List Keyword).isEmpty then 0 else 1) < 30)) = true) (hline : (apos.endLine == pos.line) = true)
    (h : wpAny (model p w) A (eval o env) (fun v s' => v = .str x t ∧ wpAny (model p w) A (spliced (backTo pos (starEach args env))) (fun vs s'' => K.In s''.heap ∧ wpAny (model p w) A (call (.builtin "str.join") (.str x t :: vs)) Q E s'') E s') E s) :
    wpAny (model p w) A (eval (.Call (.Attribute o "join" apos) args [] pos) env) Q E s := by
  refine wpAny_Call_method hbase hfew hline PySem.F.plainAttrs_str PySem.F.slot_str_join PySem.F.type_str_join (wpAny_mono h (fun v s' h' => ?_) fun _ _ z => z)
  obtain ⟨rfl, h'⟩ := h'
  exact ⟨typeIs_str _ _ _, (fun _ e => nomatch e), callWith_of (P := K.In) (by rw [hns]; rfl) (PlainF.bi (p := p) (w := w)) (evArgs hns h')⟩
set_option maxHeartbeats 1000000 in
/-- the text of a pile -/
theorem str_call {x dx : Addr} {us : List Value} {ps : List (Str × Str)} {e : Nat} {R : Result → Shared → Prop} (kx : KX K) (kc : KC K) (km : KM p K) (ki : KI K) (W : Wd p w K s.heap) (hh : A.handled = none) (hroom : A.depth + 1 < recursionLimit)
    (hx : s.heap.get? x = some (pilObj dx us.toArray e)) (pr : PairsAt s.heap us ps) (hz : ∀ q ∈ ps, q.1.length ≤ 1000 ∧ q.2.length ≤ 1000) (hl : ps.length ≤ 900) (hw : ((glued ps).map (·.length)).sum + ps.length ≤ 1048576)
    (hR : ∀ s' t, Sh s s' → R (.ok (.ret (.str (Txt.join "" (glued ps)) t))) s') : codeAny (model p w) A (.call (.ref 99) ⟨[.ref x], []⟩) R s := by
  refine W.callDef km.str (by omega) (body := _) rfl (BindsTo.of_eq (binds := [(("self" : Str), Value.ref x)]) rfl) (by decide) (by intro y hy; rw [List.mem_singleton.mp hy]; rfl) rfl rfl rfl fun L h₀ tk hL hn k => ?_
  have W1 : Wd p w K h₀ := W.kp (.of k)
  have pr1 : PairsAt h₀ us ps := ⟨pr.1, fun j a b hj => let ⟨T, o, ta, tb, h1, h2, h3⟩ := pr.2 j a b hj; ⟨T, o, ta, tb, h1, k _ _ h2, h3⟩⟩
  have y0 : Sh s { s with heap := h₀, toks := tk } := .mk' (.of k)
  have hem : nsIn K mainGlobals ("EMPTYSTRING" : Str) = some (some (.str "" 300)) := kx.g (("EMPTYSTRING" : Str), .str "" 300) (List.mem_of_getElem? (i := 1) rfl)
  refine ks_wpAt_execs_cons (ks_wpAt_Return_some (wpAt_of_wpAny ?_))
  refine strJoinCall (K := K) (x := "") (t := 300) rfl rfl rfl rfl ?_
  refine W1.gl.gl hem rfl rfl rfl (by decide) ⟨rfl, ?_⟩
  have htx : ∀ i a b, ps[i]? = some (a, b) → (glued ps).getD i "" = Txt.join "" [a, b] := fun i a b h => by
    unfold glued
    rw [List.getD_eq_getElem?_getD, List.getElem?_map, h]; rfl
  refine spliced_more (genPil (F := fun i y => ∃ t, y = .str ((glued ps).getD i "") t) kx kc ki W1 hh (by simp only [Around.deeper]; omega) rfl rfl rfl hn rfl (k _ _ hx) rfl ki.cStr (.inr rfl) pr1 rfl rfl (by decide) rfl rfl rfl rfl ?_ ?_) rfl
  · intro A' E' C code i a b ta tb s₂ m₂ hA hi G hn₂ ha hb
    have hq := hz _ (List.mem_of_getElem? hi)
    refine strJoinCall (K := K) (x := "") (t := 300) rfl rfl rfl rfl ?_
    refine G.gl hem rfl rfl rfl (by decide) ⟨rfl, ?_⟩
    refine spliced_more (Tuple_ (spliced_more (wpAny_Name (wpAny_loadName_local rfl rfl hn₂ ha (spliced_more (wpAny_Name (wpAny_loadName_local rfl rfl hn₂ hb (spliced_none (wpAny_newTuple ?_ (show (2 : Nat) ≤ sizeLine by decide)))) (by decide)) rfl)) (by decide)) rfl)) rfl
    refine spliced_none ⟨G.kin.keeps fun b o e => Heap.get?_push_of_some _ e, ?_⟩
    refine join_tupleW (ys := [a, b]) ⟨_, Heap.get?_push_size _ rfl, rfl, _, rfl⟩ (.cons _ _ (.cons _ _ .nil)) (by decide) ?_ fun t' kk => ?_
    · have h1 : a.length ≤ 1000 := hq.1
      have h2 : b.length ≤ 1000 := hq.2
      simp only [List.map_cons, List.map_nil, List.sum_cons, List.sum_nil, List.length_cons, List.length_nil]
      omega
    · exact ⟨⟨t', by rw [htx i a b hi]⟩, _, kk, rfl, fun b o e => Heap.get?_push_of_some _ e⟩
  · intro a s₅ X y
    have W5 : Wd p w K s₅.heap := W1.kp y.kp
    refine spliced_none ⟨W5.kin, ?_⟩
    have hg : (List.range ps.length).map (fun i => (glued ps).getD i "") = glued ps := by
      have e1 : ps.length = (glued ps).length := by unfold glued; rw [List.length_map]
      rw [e1]; exact range_getD (glued ps) ""
    refine X.join (s₀ := { s with heap := h₀, toks := tk }) y (fun i => (glued ps).getD i "") (fun j v h => h) (by rw [hg]; exact joinOk_of_weight (by rw [show (glued ps).length = ps.length by unfold glued; rw [List.length_map]]; exact hw) (by decide)) (Nat.le_trans hl (by decide)) fun s' t' y' => ?_
    rw [hg]
    exact hR s' t' (y0.trans y')
end
end Mine
end
section
open PySem PySem.Spec PySem.Calls PyProof.Rows PySem.W
namespace Mine
variable {p : Program} {w : World} {K : Frag} {n : Nat} {env : Env} {σ : Store} {N N' : Store → Prop} {R : D → Prop} {rest : List Stmt}
theorem lens_sum_bd {ps : List (Str × Str)} (hz : ∀ q ∈ ps, q.1.length ≤ 1000 ∧ q.2.length ≤ 1000) : 0 ≤ (lens ps).sum ∧ (lens ps).sum ≤ 2000 * ps.length := by
  have h := pre_bd hz ps.length
  have e1 : ps.length = (lens ps).length := by unfold lens; rw [List.length_map]
  have e2 := preSum_take (lens ps) (lens ps).length (Nat.le_refl _)
  rw [List.take_length, ← e1] at e2
  rw [e2] at h
  exact h
section
variable {A : Around} {E : Value → Shared → Prop} {s : Shared}
/-- len(pile) -/
theorem lenPil {x dx : Addr} {us : List Value} {ps : List (Str × Str)} {e : Nat} {od : Obj} {first : Int} {Q : Value → Shared → Prop} (kx : KX K) (kc : KC K) (km : KM p K) (ki : KI K) (W : Wd p w K s.heap) (hh : A.handled = none) (hroom : A.depth + 2 < recursionLimit)
    (hx : s.heap.get? x = some (pilObj dx us.toArray e)) (hd : s.heap.get? dx = some od) (hsz : SzObj first od) (pr : PairsAt s.heap us ps) (hz : ∀ q ∈ ps, q.1.length ≤ 1000 ∧ q.2.length ≤ 1000) (hl : ps.length ≤ 900) (hf : 0 ≤ first ∧ first ≤ 1000)
    (hQ : ∀ s' t, Sh s s' → Q (.int (first + (lens ps).sum) t) s') : wpAny (model p w) A (call (.builtin "len") [.ref x]) Q E s := by
  have I : InstAt s.heap x (pilObj dx us.toArray e) 125 (some od) := ⟨hx, rfl, rfl, hd⟩
  refine Calls.call_function_entry kind_len plain_len entry_len (args_len1 _) ?_
  unfold Builtin.«len»
  refine wpAny_bind (m := oneArg "len" _) (wpAny_pure ?_)
  refine wpAny_bind (m := callSpecial? (.ref x) (Str.ofString "__len__")) (special_fn W.kin I kc.len (km.typ 92 (by decide)) (wpAny_call (len_call kx kc km ki W hh (by simp only [Around.in1]; omega) hx hd hsz pr hz hl hf fun s' t y => ?_)))
  have hb := lens_sum_bd hz
  have h9 : ((ps.length : Nat) : Int) ≤ 900 := by omega
  refine wpAny_bind (wpAny_holding (wpAny_pure ?_))
  refine wpAny_bind (wpAny_letGo ?_)
  show wpAny _ _ (if first + (lens ps).sum < 0 then _ else _) _ _ _
  rw [if_neg (by omega)]
  show wpAny _ _ (if first + (lens ps).sum ≥ 2 ^ 63 then _ else _) _ _ _
  rw [if_neg (by omega)]
  exact wpAny_bind (wpAny_mkInt (wpAny_pure ⟨_, rfl, hQ _ _ (y.trans (.tok s' _))⟩))
/-- str(pile) -/
theorem strPil {x dx : Addr} {us : List Value} {ps : List (Str × Str)} {e : Nat} {od : Obj} {first : Int} {Q : Value → Shared → Prop} (kx : KX K) (kc : KC K) (km : KM p K) (ki : KI K) (W : Wd p w K s.heap) (hh : A.handled = none) (hroom : A.depth + 3 < recursionLimit) (hu : A.units + 3 < cLine)
    (hx : s.heap.get? x = some (pilObj dx us.toArray e)) (hd : s.heap.get? dx = some od) (hsz : SzObj first od) (pr : PairsAt s.heap us ps) (hz : ∀ q ∈ ps, q.1.length ≤ 1000 ∧ q.2.length ≤ 1000) (hl : ps.length ≤ 900) (hw : ((glued ps).map (·.length)).sum + ps.length ≤ 1048576)
    (hQ : ∀ s' t, Sh s s' → Q (.str (Txt.join "" (glued ps)) t) s') : wpAny (model p w) A (call (.type "str") [.ref x]) Q E s := by
  have I : InstAt s.heap x (pilObj dx us.toArray e) 125 (some od) := ⟨hx, rfl, rfl, hd⟩
  refine kso_call (f := 99) (by simp only [Around.in1]; omega) W.kin I kc.str (by unfold isFn; rw [km.typ 99 (by decide)]; rfl) (wpAny_call (str_call kx kc km ki W hh (by simp only [Around.in1]; omega) hx pr hz hl hw fun s' t y => ?_))
  exact hQ s' t y
end
end Mine
end
section
open PySem PySem.Spec PySem.Calls PyProof.Rows PySem.W
namespace Mine
variable {p : Program} {w : World} {K : Frag} {n : Nat} {env : Env} {σ : Store} {N N' : Store → Prop} {R : D → Prop} {rest : List Stmt}
noncomputable def pilD (ps : List (Str × Str)) : List D := ps.map fun q => .tup [.str q.1, .str q.2]
theorem RdL.pairs {h : Heap} {O : List Addr} : ∀ {ps : List (Str × Str)} {vs : List Value}, RdL p w (exc h O) (pilD ps) vs → PairsAt h vs ps
  | [], vs, r => by
    simp only [pilD, List.map_nil, RdL] at r
    subst r
    exact ⟨rfl, fun j a b h => by simp at h⟩
  | q :: ps, vs, r => by
    simp only [pilD, List.map_cons, RdL] at r
    obtain ⟨v, vs', rfl, h1, h2⟩ := r
    have ih := RdL.pairs (ps := ps) h2
    refine ⟨by simp [ih.1], fun j a b h => ?_⟩
    cases j with
    | zero =>
      simp only [List.getElem?_cons_zero, Option.some.injEq] at h
      subst h
      simp only [Rd, RdL] at h1
      obtain ⟨T, o, us, rfl, ho, hT, v1, us', rfl, ⟨t1, rfl⟩, v2, us'', rfl, ⟨t2, rfl⟩, rfl⟩ := h1
      exact ⟨T, o, t1, t2, rfl, (exc_get ho).2, hT⟩
    | succ j =>
      simp only [List.getElem?_cons_succ] at h
      obtain ⟨T, o, ta, tb, g1, g2, g3⟩ := ih.2 j a b h
      exact ⟨T, o, ta, tb, by simpa using g1, g2, g3⟩
end Mine
end
section
open PySem PySem.Spec PySem.Calls PyProof.Rows PySem.W
namespace Mine
variable {p : Program} {w : World} {K : Frag} {n : Nat} {env : Env} {σ : Store} {N N' : Store → Prop} {R : D → Prop} {rest : List Stmt}
/-- bounds of a pile's parts -/
structure PzOk (first : Int) (ps : List (Str × Str)) : Prop where
  first : 0 ≤ first ∧ first ≤ 1000
  each : ∀ q ∈ ps, q.1.length ≤ 1000 ∧ q.2.length ≤ 1000
  many : ps.length ≤ 500
  text : ((glued ps).map (·.length)).sum + ps.length ≤ 1048576
structure KP (p : Program) (K : Frag) : Prop where
  kx : KX K
  kc : KC K
  km : KM p K
  ki : KI K
section
variable {a dx : Addr} {first : Int} {ps : List (Str × Str)} {x : Str}
theorem Ev.pilStr {fp p2 pos : Pos} (kp : KP p K) (hg : EvG p w K env (.Name "str" fp) (.type "str")) (h : σ.lookup x = some (.pil a dx first (pilD ps))) (z : PzOk first ps)
    (he : starEach [.Name x p2] env = (false, eval (.Name x p2) env) :: starEach [] env := by rfl) (hns : (backTo pos (starEach [.Name x p2] env)).any (·.1) = false := by rfl) : Ev p w K n env σ (.Call (.Name "str" fp) [.Name x p2] [] pos) (.str (Txt.join "" (glued ps))) := fun O A s Q E ok st hQ => by
  refine evCall st hg PlainF.ty hns (spliced_more ?_ he)
  obtain ⟨v, b, r⟩ := st.vars x _ h
  obtain ⟨rfl, _, _, vs, ⟨⟨k, ho⟩, od, hd, hz⟩, rl⟩ := r
  have d1 := ok.depth
  have d2 := ok.units
  refine evalBnd st.kind b (spliced_none ⟨st.wd.kin, ?_⟩)
  exact strPil kp.kx kp.kc kp.km kp.ki st.wd ok.hand (by simp only [recursionLimit]; omega) (by simp only [cLine]; omega) ho hd hz rl.pairs z.each (Nat.le_trans z.many (by decide)) z.text fun s' t y => hQ _ s' y ⟨t, rfl⟩
theorem Ev.pilLen {fp p2 pos : Pos} (kp : KP p K) (hg : EvG p w K env (.Name "len" fp) (.builtin "len")) (h : σ.lookup x = some (.pil a dx first (pilD ps))) (z : PzOk first ps)
    (he : starEach [.Name x p2] env = (false, eval (.Name x p2) env) :: starEach [] env := by rfl) (hns : (backTo pos (starEach [.Name x p2] env)).any (·.1) = false := by rfl) : Ev p w K n env σ (.Call (.Name "len" fp) [.Name x p2] [] pos) (.int (first + (lens ps).sum)) := fun O A s Q E ok st hQ => by
  refine evCall st hg PlainF.bi hns (spliced_more ?_ he)
  obtain ⟨v, b, r⟩ := st.vars x _ h
  obtain ⟨rfl, _, _, vs, ⟨⟨k, ho⟩, od, hd, hz⟩, rl⟩ := r
  have d1 := ok.depth
  refine evalBnd st.kind b (spliced_none ⟨st.wd.kin, ?_⟩)
  exact lenPil kp.kx kp.kc kp.km kp.ki st.wd ok.hand (by simp only [recursionLimit]; omega) ho hd hz rl.pairs z.each (Nat.le_trans z.many (by decide)) z.first fun s' t y => hQ _ s' y ⟨t, rfl⟩
theorem Ev.pilPart {p2 apos pos : Pos} {pl : Sem Bool} (kp : KP p K) (h : σ.lookup x = some (.pil a dx first (pilD ps))) (z : PzOk first ps)
    (hbase : attributeBase (.Name x p2) "part_count" env (eval (.Name x p2) env) = eval (.Name x p2) env := by rfl)
    (he : eval (.Call (.Attribute (.Name x p2) "part_count" apos) [] [] pos) env = (do
      let ov ← attributeBase (.Name x p2) "part_count" env (eval (.Name x p2) env)
      standAt apos.atName
      let (f, first) ← holding [ov] (getMethod ov "part_count" pl)
      callWith pos f first (backTo pos (starEach [] env)) []) := by rfl) : Ev p w K n env σ (.Call (.Attribute (.Name x p2) "part_count" apos) [] [] pos) (.int ps.length) := fun O A s Q E ok st hQ => by
  obtain ⟨v, b, r⟩ := st.vars x _ h
  obtain ⟨rfl, _, _, vs, ⟨⟨k, ho⟩, od, hd, hz⟩, rl⟩ := r
  have d1 := ok.depth
  have hl := rl.pairs.1
  have hm := z.many
  refine Mine.methodCall ?_ he
  rw [hbase]
  refine evalBnd st.kind b ?_
  refine getMeth kp.kc st.wd.kin ho hd kp.kc.part (kp.km.typ 122 (by decide)) (by decide) (shadow hz (by decide)) ?_
  refine callWith_of (P := K.In) rfl (fun h X => keeps_K kp.km.part.keep h X) (evArgs rfl (spliced_none ⟨st.wd.kin, wpAny_call ?_⟩))
  refine part_call kp.kx kp.kc kp.km st.wd (by simp only [recursionLimit]; omega) ho (by omega) fun h' tk t k' => ?_
  rw [hl]
  exact hQ _ _ (.mk' (.of k')) ⟨t, rfl⟩
end
end Mine
end
section
open PySem PySem.Spec PySem.Calls PyProof.Rows PySem.W
namespace Mine
variable {p : Program} {w : World} {K : Frag} {n : Nat} {env : Env} {σ : Store} {N N' : Store → Prop} {R : D → Prop} {rest : List Stmt}
/-- an own object was turned, and others made -/
theorem StS.turnNew {B : Base} {O₀ : List Addr} {s : Shared} (st : StS p w K B O₀ env σ s) {x : Str} {e e' : Ent} {v : Value} {m : Addr} {h' : Heap} {tk : Nat} {o₀ o₁ : Obj} (hx : σ.lookup x = some e) (he : e'.own = e.own) (hm : m ∈ e.own) (b : Bnd env s.heap x v)
    (h0 : s.heap.get? m = some o₀) (hf : o₀.isFreed = false) (k : ∀ c o, c ≠ m → s.heap.get? c = some o → h'.get? c = some o) (h1 : h'.get? m = some o₁) (r : ER p w h' (muts env σ O₀) v e') : StS p w K B O₀ env (put σ x e') { s with heap := h', toks := tk } := by
  have hs := Heap.SameBut.update h' m (fun _ => o₀)
  have back : Heap.SameBut m (h'.update m fun _ => o₀) h' := ⟨hs.1.symm, fun b hb => (hs.2 b hb).symm⟩
  have y : Sh s { s with heap := h'.update m fun _ => o₀, toks := tk } := .mk' (.of fun c o ec => by
    by_cases q : c = m
    · subst q
      rw [h0] at ec; cases ec
      exact Heap.get?_update_self _ h1 hf
    · exact (hs.2 c q).trans (k c o q ec))
  have st1 := st.sh y
  exact st1.turnOwn hx he hm (b.kp st.e.wd y.kp) back ⟨o₁, h1⟩ r
end Mine
end
section
open PySem PySem.Spec PySem.Calls PyProof.Rows PySem.W
namespace Mine
variable {p : Program} {w : World} {K : Frag} {n : Nat} {env : Env} {σ : Store} {N N' : Store → Prop} {R : D → Prop} {rest : List Stmt}
theorem StS.ownP {B : Base} {O₀ : List Addr} {s : Shared} (st : StS p w K B O₀ env σ s) {x : Str} {a dx : Addr} {f : Int} {ds : List D} (hx : σ.lookup x = some (.pil a dx f ds)) :
    ∃ vs e od, Bnd env s.heap x (.ref a) ∧ s.heap.get? a = some (pilObj dx vs.toArray e) ∧ s.heap.get? dx = some od ∧ SzObj f od ∧ RdL p w (exc s.heap (muts env σ O₀)) ds vs ∧ a ≠ dx ∧ a ∈ muts env σ O₀ ∧ dx ∈ muts env σ O₀ ∧ lowN ≤ a := by
  obtain ⟨v, b, r⟩ := st.e.vars x _ hx
  obtain ⟨rfl, m1, m2, vs, ⟨⟨k, ho⟩, od, hd, hz⟩, rl⟩ := r
  refine ⟨vs, k, od, b, ho, hd, hz, rl, ?_, m1, m2, ?_⟩
  · rintro rfl
    rw [ho] at hd
    obtain ⟨_, _, _, _, rfl⟩ := hz
    cases hd
  · exact (st.fo x _ a hx (by simp [Ent.own])).1.2.2
/-- pile.push(a, b) -/
theorem Stp.push {x : Str} {xp apos cpos pos : Pos} {pl : Sem Bool} {args : List Expr} {a dx : Addr} {first : Int} {ps : List (Str × Str)} {sa sb : Str} (kp : KP p K) (hx : σ.lookup x = some (.pil a dx first (pilD ps))) (ha : EvLs p w K n env σ args [.str sa, .str sb]) (hz : ps.length ≤ 500)
    (hns : (backTo cpos (starEach args env)).any (·.1) = false) (hbase : attributeBase (.Name x xp) "push" env (eval (.Name x xp) env) = eval (.Name x xp) env)
    (he : eval (.Call (.Attribute (.Name x xp) "push" apos) args [] cpos) env = (do
      let ov ← attributeBase (.Name x xp) "push" env (eval (.Name x xp) env)
      standAt apos.atName
      let (f, first) ← holding [ov] (getMethod ov "push" pl)
      callWith cpos f first (backTo cpos (starEach args env)) []))
    (hi : interactive env = false) (hs : swapsWith (.Call (.Attribute (.Name x xp) "push" apos) args [] cpos) none pos.line env = pure false) :
    Stp p w K n env σ (.Expr (.Call (.Attribute (.Name x xp) "push" apos) args [] cpos) pos) (put σ x (.pil a dx first (pilD (ps ++ [(sa, sb)])))) := fun B O₀ A s Q E ok st hQ => by
  obtain ⟨vs, k, od, b, ho, hd, hsz, rl, _⟩ := st.ownP hx
  have d1 := ok.depth
  refine wpAny_Expr_any (Mine.methodCall ?_ he) hi hs
  rw [hbase]
  refine evalBnd st.e.kind b ?_
  refine getMeth kp.kc st.e.wd.kin ho hd kp.kc.push (kp.km.typ 69 (by decide)) (by decide) (shadow hsz (by decide)) ?_
  refine callWith_of (P := K.In) (by rw [hns]; rfl) (fun h X => keeps_K kp.km.push.keep h X) (evArgs hns (ha _ A s _ E cpos ok st.e fun us s₁ y r => ⟨(st.sh y).e.wd.kin, ?_⟩))
  simp only [RdL, Rd] at r
  obtain ⟨v1, us', rfl, ⟨t1, rfl⟩, v2, us'', rfl, ⟨t2, rfl⟩, rfl⟩ := r
  have st₁ := st.sh y
  obtain ⟨vs, k, od, b, ho, hd, hsz, rl, hne, hma, hmd, _⟩ := st₁.ownP hx
  have hl := rl.pairs.1
  refine wpAny_call (push_call kp.kx kp.kc kp.km st₁.e.wd (by simp only [recursionLimit]; omega) ho hd hsz (by omega) fun h' tk T o e' hT1 hT2 hT3 hx' k' => ?_)
  refine hQ _ (st₁.turnNew (tk := tk) (e' := .pil a dx first (pilD (ps ++ [(sa, sb)]))) hx rfl (by simp [Ent.own]) b ho rfl k' hx' ?_)
  have sb' : Sub (exc s₁.heap (muts env σ O₀)) (exc h' (muts env σ O₀)) := fun c o e _ => by
    obtain ⟨g1, g2⟩ := exc_get e
    exact exc_of g1 (k' c o (fun q => g1 (q ▸ hma)) g2)
  have hTm : T ∉ muts env σ O₀ := fun q => by
    obtain ⟨_, _, o, ho⟩ := st₁.e.bd T q
    exact absurd (Heap.lt_size ho) (Nat.not_lt.mpr hT1)
  refine ⟨rfl, hma, hmd, vs ++ [.ref T], ⟨⟨e', hx'⟩, od, k' _ _ (Ne.symm hne) hd, hsz⟩, ?_⟩
  rw [show pilD (ps ++ [(sa, sb)]) = pilD ps ++ [.tup [.str sa, .str sb]] by simp [pilD]]
  refine (rl.mono sb').append (.one ?_)
  simp only [Rd, RdL]
  exact ⟨T, o, _, rfl, exc_of hTm hT2, hT3, _, _, rfl, ⟨t1, rfl⟩, _, _, rfl, ⟨t2, rfl⟩, rfl⟩
end Mine
end
section
open PySem PySem.Spec PySem.Calls PyProof.Rows PySem.W
namespace Mine
variable {p : Program} {w : World} {K : Frag} {n : Nat} {env : Env} {σ : Store} {N N' : Store → Prop} {R : D → Prop} {rest : List Stmt}
theorem RdL.split {g : Look} {d : D} : ∀ {ds : List D} {vs : List Value}, RdL p w g (ds ++ [d]) vs → ∃ us v, vs = us ++ [v] ∧ RdL p w g ds us ∧ Rd p w g d v
  | [], vs, r => by
    simp only [List.nil_append, RdL] at r
    obtain ⟨v, vs', rfl, h1, rfl⟩ := r
    exact ⟨[], v, rfl, by simp only [RdL], h1⟩
  | d₀ :: ds, vs, r => by
    simp only [List.cons_append, RdL] at r
    obtain ⟨v, vs', rfl, h1, h2⟩ := r
    obtain ⟨us, u, rfl, g1, g2⟩ := RdL.split h2
    exact ⟨v :: us, u, rfl, by simp only [RdL]; exact ⟨v, us, rfl, h1, g1⟩, g2⟩
/-- what pile.pop() tells, and what it does -/
theorem popEval {B : Base} {O₀ : List Addr} {A : Around} {s : Shared} {E : Value → Shared → Prop} {x : Str} {xp apos cpos : Pos} {pl : Sem Bool} {a dx : Addr} {first : Int} {ps : List (Str × Str)} {q : Str × Str} {Q : Value → Shared → Prop} (kp : KP p K) (ok : Ok n A) (st : StS p w K B O₀ env σ s) (hx : σ.lookup x = some (.pil a dx first (pilD (ps ++ [q])))) (hz : ps.length ≤ 500)
    (hbase : attributeBase (.Name x xp) "pop" env (eval (.Name x xp) env) = eval (.Name x xp) env)
    (he : eval (.Call (.Attribute (.Name x xp) "pop" apos) [] [] cpos) env = (do
      let ov ← attributeBase (.Name x xp) "pop" env (eval (.Name x xp) env)
      standAt apos.atName
      let (f, first) ← holding [ov] (getMethod ov "pop" pl)
      callWith cpos f first (backTo cpos (starEach [] env)) []))
    (hQ : ∀ v s', StS p w K B O₀ env (put σ x (.pil a dx first (pilD ps))) s' → Rd p w (exc s'.heap (muts env (put σ x (.pil a dx first (pilD ps))) O₀)) (.tup [.str q.1, .str q.2]) v → Q v s') :
    wpAny (model p w) A (eval (.Call (.Attribute (.Name x xp) "pop" apos) [] [] cpos) env) Q E s := by
  obtain ⟨vs, k, od, b, ho, hd, hsz, rl, hne, hma, hmd, hlo⟩ := st.ownP hx
  have d1 := ok.depth
  refine Mine.methodCall ?_ he
  rw [hbase]
  refine evalBnd st.e.kind b ?_
  refine getMeth kp.kc st.e.wd.kin ho hd kp.kc.pop (kp.km.typ 85 (by decide)) (by decide) (shadow hsz (by decide)) ?_
  refine callWith_of (P := K.In) rfl (fun h X => keeps_K kp.km.pop.keep h X) (evArgs rfl (spliced_none ⟨st.e.wd.kin, ?_⟩))
  have hsplit : ∃ us v, vs = us ++ [v] ∧ RdL p w (exc s.heap (muts env σ O₀)) (pilD ps) us ∧ Rd p w (exc s.heap (muts env σ O₀)) (.tup [.str q.1, .str q.2]) v := by
    rw [show pilD (ps ++ [q]) = pilD ps ++ [.tup [.str q.1, .str q.2]] by simp [pilD]] at rl
    exact rl.split
  obtain ⟨us, v, rfl, r1, r2⟩ := hsplit
  have hl : us.length = ps.length := by rw [← r1.length]; simp [pilD]
  refine wpAny_call (pop_call kp.kx kp.kc kp.km st.e.wd (by simp only [recursionLimit]; omega) ho hd hsz hlo (by omega) fun h' tk e' hx' k' => ?_)
  have sb' : Sub (exc s.heap (muts env σ O₀)) (exc h' (muts env σ O₀)) := fun c o e _ => by
    obtain ⟨g1, g2⟩ := exc_get e
    exact exc_of g1 (k' c o (fun q => g1 (q ▸ hma)) g2)
  have st' := st.turnNew (tk := tk) (e' := .pil a dx first (pilD ps)) hx rfl (by simp [Ent.own]) b ho rfl k' hx' ⟨rfl, hma, hmd, us, ⟨⟨e', hx'⟩, od, k' _ _ (Ne.symm hne) hd, hsz⟩, r1.mono sb'⟩
  refine hQ v _ st' ?_
  refine Rd.mono (fun c o e _ => ?_) _ r2
  obtain ⟨g1, g2⟩ := exc_get e
  exact exc_of (fun hq => g1 (muts_sub (owned_of (put_nodup st.kd) fun z f a' h1 h2 => by
    rw [lookup_put] at h1
    split at h1
    · cases h1; exact ⟨x, _, hx, by simpa [Ent.own] using h2⟩
    · exact ⟨z, f, h1, h2⟩) c hq)) (k' c o (fun q => g1 (q ▸ hma)) g2)
end Mine
end
section
open PySem PySem.Spec PySem.Calls PyProof.Rows PySem.W
namespace Mine
variable {p : Program} {w : World} {K : Frag} {n : Nat} {env : Env} {σ : Store} {N N' : Store → Prop} {R : D → Prop} {rest : List Stmt}
/-- lead, line = pile.pop() -/
theorem X.popTup {x : Str} {xp apos cpos pos : Pos} {pl : Sem Bool} {a dx : Addr} {first : Int} {ps : List (Str × Str)} {q : Str × Str} {target : Expr} {f : Store → Store} {elts : List Expr} {k : Nat} {tp : Pos} (kp : KP p K) (hx : σ.lookup x = some (.pil a dx first (pilD (ps ++ [q])))) (hz : ps.length ≤ 500)
    (ha : Asg p w K env target (.tup [.str q.1, .str q.2]) f) (ht : target = .Tuple elts k tp)
    (hs : swapsWithSole [target] (.Call (.Attribute (.Name x xp) "pop" apos) [] [] cpos) pos.line env = pure false) (hw : swappedStores [target] (.Call (.Attribute (.Name x xp) "pop" apos) [] [] cpos) env = pure none)
    (hbase : attributeBase (.Name x xp) "pop" env (eval (.Name x xp) env) = eval (.Name x xp) env)
    (he : eval (.Call (.Attribute (.Name x xp) "pop" apos) [] [] cpos) env = (do
      let ov ← attributeBase (.Name x xp) "pop" env (eval (.Name x xp) env)
      standAt apos.atName
      let (f, first) ← holding [ov] (getMethod ov "pop" pl)
      callWith cpos f first (backTo cpos (starEach [] env)) []))
    (hr : X p w K n env (f (put σ x (.pil a dx first (pilD ps)))) rest N R) : X p w K n env σ (.Assign [target] (.Call (.Attribute (.Name x xp) "pop" apos) [] [] cpos) pos :: rest) N R := by
  subst ht
  exact X.mk fun B O₀ A s Q E ok st hN hR => wpAny_execs_cons (Assign_Tuple (popEval kp ok st hx hz hbase he fun v s₁ st₁ r => ha B O₀ A s₁ _ v _ E ok.hand st₁ r fun s' st' => hr.run B O₀ A s' Q E ok st' hN hR) hs hw)
end Mine
end
section
open PySem PySem.Spec PySem.Calls PyProof.Rows PySem.W
namespace Mine
variable {p : Program} {w : World} {K : Frag} {n : Nat} {env : Env} {σ : Store} {N N' : Store → Prop} {R : D → Prop} {rest : List Stmt}
/-- x = _Accumulator(e) -/
theorem X.newPil {x : Str} {px pos fp cp : Pos} {e : Expr} {first : Int} (kp : KP p K) (hg : EvG p w K env (.Name "_Accumulator" fp) (.ref 125)) (hc : PlainF p w K (.ref 125)) (he : Ev p w K n env σ e (.int first)) (hk : env.kindOf x = some .local ∨ env.kindOf x = some .cell) (hx : okName x = true)
    (hst : starEach [e] env = (false, eval e env) :: starEach [] env) (hns : (backTo cp (starEach [e] env)).any (·.1) = false)
    (hs : swapsWith (.Call (.Name "_Accumulator" fp) [e] [] cp) (some (.Name x px)) pos.line env = pure false)
    (hr : ∀ a dx, X p w K n env (put σ x (.pil a dx first (pilD []))) rest N R) : X p w K n env σ (.Assign [.Name x px] (.Call (.Name "_Accumulator" fp) [e] [] cp) pos :: rest) N R := X.mk fun B O₀ A s Q E ok st hN hR => by
  have d1 := ok.depth
  refine wpAny_execs_cons (wpAny_Assign_Name (evCall st.e hg hc hns (spliced_more (he _ A s _ E ok st.e fun v s₁ y r => spliced_none ⟨(st.sh y).e.wd.kin, ?_⟩) hst)) hs)
  obtain ⟨t, rfl⟩ := r
  have st₁ := st.sh y
  have hi : lowN ≤ s₁.heap.objs.size := let ⟨o, e⟩ := st₁.e.wd.kok.top; Nat.succ_le_of_lt (Heap.lt_size (st₁.e.wd.kin _ _ e))
  refine wpAny_call (make_call (i := first) kp.kx kp.kc kp.km st₁.e.wd hi (by simp only [recursionLimit]; omega) (F.argsNew1 _) (fun a s' k => ⟨t, bind_one kp.km (st₁.e.wd.kin.keeps k)⟩) fun h' tk a dx od e' h1 h2 h3 h4 h5 h6 h7 => ?_)
  refine st₁.storeE (s₁ := { s₁ with heap := h', toks := tk }) (.mk' (.of h7)) (e := .pil a dx first (pilD [])) hk hx ?_ ?_ ⟨rfl, by simp [Ent.own], by simp [Ent.own], [], ⟨⟨e', h4⟩, od, h5, h6⟩, by simp only [pilD, List.map_nil, RdL]⟩ fun s' st' _ _ => (hr _ _).run B O₀ A s' Q E ok st' hN hR
  · intro c hc'
    simp only [Ent.own, List.mem_cons, List.not_mem_nil, or_false] at hc'
    rcases hc' with rfl | rfl
    · exact h1
    · exact h2
  · intro c hc'
    simp only [Ent.own, List.mem_cons, List.not_mem_nil, or_false] at hc'
    rcases hc' with rfl | rfl
    · exact ⟨_, h4⟩
    · exact ⟨_, h5⟩
end Mine
end
section
open PySem PySem.Spec PySem.Calls PyProof.Rows PySem.W
namespace Mine
variable {p : Program} {w : World} {K : Frag} {n : Nat} {env : Env} {σ : Store} {N N' : Store → Prop} {R : D → Prop} {rest : List Stmt}
theorem setK_new {x : Str} {d : D} : ∀ {l : List (Str × D)}, x ∉ l.map (·.1) → setK l x d = l ++ [(x, d)]
  | [], _ => rfl
  | (k, e) :: l, h => by
    simp only [List.map_cons, List.mem_cons, not_or] at h
    rw [setK, if_neg (Ne.symm h.1), setK_new h.2]; rfl
theorem strKey {v : Value} {k : Str} (h : (strKind p w).is k v = true) : ∃ t, v = .str k t := by
  exact Value.isStrOf_shape h
/-- for t in x: y[t] = e, of own dicts x, y; y empty first -/
theorem X.forSet {t x y : Str} {pt px py1 pn sp ap pos : Pos} {e : Expr} {a c : Addr} {ks : List (Str × D)} {g : Str → D} (hx : σ.lookup x = some (.dct a ks)) (hy : σ.lookup y = some (.dct c [])) (hxy : x ≠ y) (htx : x ≠ t) (hty : y ≠ t)
    (hkt : env.kindOf t = some .local ∨ env.kindOf t = some .cell) (hokt : okName t = true) (hcn : (env.cells.map (·.1)).Nodup) (hz : ks.length ≤ 1000)
    (he : ∀ k ∈ ks.map (·.1), ∀ σ' : Store, σ'.lookup x = some (.dct a ks) → σ'.lookup t = some (.val (.str k)) → Ev p w K n env σ' e (g k))
    (hsw : swapsWith e (some (.Subscript (.Name y py1) (.Name t pn) sp)) ap.line env = pure false)
    (hr : ∀ σ' : Store, σ'.lookup x = some (.dct a ks) → σ'.lookup y = some (.dct c (ks.map fun k => (k.1, g k.1))) → (∀ z, z ≠ x → z ≠ y → z ≠ t → σ'.lookup z = σ.lookup z) → X p w K n env σ' rest N R)
    (hs : ∀ v, foldedSetIterable (.Name x px) env v = pure v := by intro _; rfl) : X p w K n env σ (.For (.Name t pt) (.Name x px) [.Assign [.Subscript (.Name y py1) (.Name t pn) sp] e ap] [] pos :: rest) N R := by
  refine X.mk fun B O₀ A s Q E ok st hN hR => ?_
  obtain ⟨b, o, kvs, ho, hk, rk⟩ := st.ownK hx
  obtain ⟨ep, hda⟩ := (hk.at ho).dictAt
  have hkk := rk.keys
  have hlen := rk.length
  have hnd := hda.nodup
  have hlt := Heap.lt_size ho
  have hne : a ≠ s.heap.objs.size := Nat.ne_of_lt hlt
  generalize hIe : s.heap.objs.size = I at hne
  refine wpAny_execs_cons (wpAny_For (evalBnd st.e.kind b (wpAny_pyIter_dict hk.mods hda ?_)) hs)
  rw [hIe]
  generalize hs2 : ({ s with heap := s.heap.push { cls := .type "dict_keyiterator", data := .fields #[.ref a, .int 0 0, .int kvs.length 0, .int ep 0] } } : Shared) = s₂
  have y2 : Sh s s₂ := hs2 ▸ StO.allocSh
  have gone := st.e.toStO.gone (a := I) (Nat.le_of_eq hIe)
  have hI2 : s₂.heap.get? I = some { cls := .type "dict_keyiterator", data := .fields #[.ref a, .int 0 0, .int kvs.length 0, .int ep 0] } := by
    rw [← hs2, ← hIe]; exact Heap.get?_push_size _ rfl
  have stB : StS p w K (baseAt env σ s) ([I] ++ O₀) env σ s₂ := st.aside (ext := [I]) (B' := baseAt env σ s) y2 (fun a ha => List.mem_singleton.mp ha ▸ gone.1) (fun a ha => List.mem_singleton.mp ha ▸ ⟨_, hI2⟩) (exc_keep.trans y2.kp) y2.os y2.gens fun a _ _ h => by
    show exc s.heap (ownP env σ) a = none
    rw [exc, if_pos]
    simp only [ownP, List.mem_cons, List.mem_append]
    exact h
  have hg : (baseAt env σ s).look I = none := by
    show exc s.heap (ownP env σ) I = none
    unfold exc; split
    · rfl
    · exact gone.1
  have offO : ∀ a ∈ O₀, a ≠ I := fun a ha q => gone.2.1 (q ▸ muts_base a ha)
  have W := Walks.dictKeys (prog := p) (w := w) (knd := strKind p w) ok.hand I a hne kvs ep
  let St := fun (i : Nat) (h : Heap) => h.IsKeyIter I a i kvs.length ep ∧ h.DictAt (strKind p w) a kvs ep
  have hda2 : s₂.heap.DictAt (strKind p w) a kvs ep := by rw [← hs2]; exact hda.push _
  have hIc : I ∉ env.cells.map (·.2) := fun q => by obtain ⟨o, h⟩ := st.mem_cells q; rw [gone.1] at h; cases h
  have hIl : I ≠ env.locals := fun q => by obtain ⟨mm, o, _, _, h, _⟩ := st.ns; rw [← q, gone.1] at h; cases h
  have loT : ∀ b, lowN ≤ b → b ≠ tA ∧ b ≠ tB := fun b hb => ⟨fun q => by subst q; exact absurd hb (by decide), fun q => by subst q; exact absurd hb (by decide)⟩
  have gk : ∀ i, (ks.map fun k => (k.1, g k.1)).take i = (ks.take i).map fun k => (k.1, g k.1) := fun i => by rw [List.map_take]
  refine codeAny_forLoop_any (fun k s' => ∃ i σ', k = kvs.length + 1 - i ∧ i ≤ kvs.length ∧ (σ'.lookup x = some (.dct a ks) ∧ σ'.lookup y = some (.dct c ((ks.take i).map fun k => (k.1, g k.1))) ∧ ∀ z, z ≠ x → z ≠ y → z ≠ t → σ'.lookup z = σ.lookup z) ∧
    StS p w K (baseAt env σ s) ([I] ++ O₀) env σ' s' ∧ St i s'.heap) ?_ (kvs.length + 1) ⟨0, σ, rfl, Nat.zero_le _, ⟨hx, hy, fun _ _ _ _ => rfl⟩, stB, ⟨⟨_, hI2, rfl, rfl⟩, hda2⟩⟩
  rintro k s' ⟨i, σ', rfl, hle, ⟨hx', hy', hz'⟩, st', hSt⟩
  by_cases hlt' : i < kvs.length
  · refine W.item i s' _ _ hlt' hSt fun v h' tk hP hSt' hk' => ?_
    have k' : ∀ b o, b ≠ I → s'.heap.get? b = some o → h'.get? b = some o := fun b o hb e => hk' b o (fun q => hb (List.mem_singleton.mp q)) e
    obtain ⟨⟨oI, hoI, _⟩, _⟩ := id hSt'
    have st3 : StS p w K (baseAt env σ s) ([I] ++ O₀) env σ' { s' with heap := h', toks := tk } := st'.walk hcn (by simp) hg gone.2.2 (fun a ha => ha) (fun a ha => by
      rcases List.mem_append.mp ha with q | q
      · exact List.mem_singleton.mp q ▸ ⟨oI, hoI⟩
      · obtain ⟨o, ho⟩ := st'.there (List.mem_append_right _ q); exact ⟨o, k' a o (offO a q) ho⟩) k'
    refine wpAny_pure ?_
    obtain ⟨key, dv, hkey, hv⟩ := hP
    obtain ⟨tt, rfl⟩ := strKey hv
    have hks : ks[i]?.map (·.1) = some key := by
      have := congrArg (fun l => l[i]?) hkk
      simp only [List.getElem?_map] at this
      rw [← this, hkey]; rfl
    obtain ⟨kd, hkd, hkd1⟩ := Option.map_eq_some_iff.mp hks
    have hkm : key ∈ ks.map (·.1) := List.mem_map.mpr ⟨kd, List.mem_of_getElem? hkd, hkd1⟩
    have fa := st3.fo x _ a hx' (by simp [Ent.own])
    refine wpAny_assign_Name (st3.storeV (d := .str key) hkt hokt ⟨tt, rfl⟩ fun s4 st4 _ k4 => ?_)
    have lx4 : (put σ' t (.val (.str key))).lookup x = some (.dct a ks) := lkN hx' htx
    have ly4 : (put σ' t (.val (.str key))).lookup y = some (.dct c ((ks.take i).map fun k => (k.1, g k.1))) := lkN hy' hty
    refine wpAny_execs_cons (wpAny_Assign_Subscript (he key hkm _ lx4 lkE _ A s4 _ _ ok st4.e fun v5 s5 y5 r5 => ?_) hsw)
    have st5 := st4.sh y5
    refine evalBnd st.e.kind (st5.ownK ly4).1 ((Ev.name (lkE (σ := σ') (x := t))) _ A s5 _ _ ok st5.e fun iv s6 y6 r6 => ?_)
    obtain ⟨t6, rfl⟩ := r6
    have st6 := st5.sh y6
    obtain ⟨_, oc, kvc, hoc, hkc, rkc⟩ := st6.ownK ly4
    have hac : a ≠ c := fun q => hxy (st'.oo x y _ _ a hx' hy' (by simp [Ent.own]) (by simp [Ent.own, q]))
    have fc := st3.fo y _ c hy' (by simp [Ent.own])
    have hIcc : I ≠ c := fun q => fc.1.2.1 (q ▸ by simp)
    have hzc : kvc.length ≤ sizeLine := by
      rw [← rkc.length, List.length_map, List.length_take]
      exact Nat.le_trans (Nat.le_trans (Nat.min_le_right _ _) hz) (by decide)
    refine wpAny_setItem_pairs (knd := strKind p w) (k := key) (strKind_is p w key t6) (hkc.at hoc) (fun h7 hd7 hs7 => ?_) hzc
    obtain ⟨o7, ho7, hk7⟩ := IsK.of hkc.1 hd7
    have st7 := st6.turnK (tk := s6.toks + 1) ly4 hs7 ho7 hk7 (rkc.set (st5.e.toStO.rd y6 r5) (hkc.nodup hoc))
    refine wpAny_execs_nil ?_
    have up : ∀ b o, (b = a ∨ b = I) → h'.get? b = some o → h7.get? b = some o := fun b o hb e => by
      have hlo : lowN ≤ b := by rcases hb with rfl | rfl; exact fa.1.2.2; exact gone.2.2
      have e4 : s4.heap.get? b = some o := k4 b o (by rcases hb with rfl | rfl; exact fa.2.1; exact hIl) (by rcases hb with rfl | rfl; exact fa.2.2; exact hIc) e
      have e5 := y5.kp.get b o (loT b hlo).1 (loT b hlo).2 e4
      have e6 := y6.kp.get b o (loT b hlo).1 (loT b hlo).2 e5
      exact (hs7.2 b (by rcases hb with rfl | rfl; exact hac; exact hIcc)).trans e6
    refine ⟨kvs.length + 1 - (i + 1), by omega, i + 1, _, rfl, hlt', ⟨lkN lx4 hxy, ?_, fun z h1 h2 h3 => ?_⟩, st7, ?_⟩
    · rw [lkE, setK_new]
      · have : ks.take (i + 1) = ks.take i ++ [kd] := by rw [List.take_add_one, hkd]; rfl
        rw [this, List.map_append, ← hkd1]; rfl
      · intro hm
        rw [List.map_map] at hm
        obtain ⟨z, hz1, hz2⟩ := List.mem_map.mp hm
        have hn2 : (ks.map (·.1)).Nodup := by rw [← hkk]; exact hnd
        have hi' : i < ks.length := by rw [hlen]; exact hlt'
        have e1 : ks.map (·.1) = (ks.take i).map (·.1) ++ (ks.drop i).map (·.1) := by rw [← List.map_append, List.take_append_drop]
        rw [e1, List.nodup_append] at hn2
        refine hn2.2.2 z.1 (List.mem_map.mpr ⟨z, hz1, rfl⟩) z.1 ?_ rfl
        have hz2' : z.1 = key := hz2
        rw [hz2', ← hkd1]
        refine List.mem_map.mpr ⟨kd, ?_, rfl⟩
        have : ks.drop i = ks[i] :: ks.drop (i + 1) := List.drop_eq_getElem_cons hi'
        rw [this]
        have : ks[i] = kd := by
          have h9 := List.getElem?_eq_getElem hi'
          rw [hkd] at h9; exact (Option.some.inj h9).symm
        rw [this]; exact List.mem_cons_self
    · rw [lookup_put, if_neg h2, lookup_put, if_neg h3]; exact hz' z h1 h2 h3
    · exact W.frame (i + 1) h' _ hSt' fun b hb o e => up b o (by
        rcases List.mem_cons.mp hb with rfl | hb
        · exact .inr rfl
        · exact .inl (List.mem_singleton.mp hb)) e
  · have hE : i = kvs.length := by omega
    subst hE
    refine W.done s' _ _ hSt fun h' tk hk' => ?_
    have k' : ∀ b o, b ≠ I → s'.heap.get? b = some o → h'.get? b = some o := fun b o hb e => hk' b o (fun q => hb (List.mem_singleton.mp q)) e
    refine wpAny_execs_nil ?_
    have st3 : StS p w K (baseAt env σ s) O₀ env σ' { s' with heap := h', toks := tk } := st'.walk hcn (by simp) hg gone.2.2 (fun a ha => List.mem_append_right _ ha) (fun a q => by
      obtain ⟨o, ho⟩ := st'.there (List.mem_append_right _ q); exact ⟨o, k' a o (offO a q) ho⟩) k'
    have htk : ks.take kvs.length = ks := List.take_of_length_le (by rw [hlen]; exact Nat.le_refl _)
    rw [htk] at hy'
    exact (hr σ' hx' hy' hz').run B O₀ A _ Q E ok (st.back hcn st3) hN hR
end Mine
end
section
open PySem PySem.Spec PySem.Calls PyProof.Rows PySem.W
namespace Mine
/-! the ways, as numbers -/
noncomputable def wayT : List Str := ["a", "ba", "ca", "da", "bca", "bda", "cba", "cda", "dba", "dca", "bcda", "bdca", "cbda", "cdba", "dbca", "dcba"]
noncomputable def wy : Nat → Option Str
  | 0 => none
  | k + 1 => wayT[k]?
noncomputable abbrev Cfg := Nat × Nat × Nat
noncomputable def cfgs : List Cfg := [(0, 0, 0), (2, 0, 0), (0, 3, 0), (0, 0, 4), (2, 3, 0), (2, 7, 0), (2, 0, 4), (2, 0, 9), (5, 3, 0), (0, 3, 4), (0, 3, 10), (6, 0, 4), (0, 8, 4), (2, 3, 4), (2, 3, 9), (2, 3, 10), (2, 7, 4), (2, 7, 9), (2, 7, 16), (2, 8, 4), (2, 14, 9), (5, 3, 4), (5, 3, 15), (5, 3, 10), (6, 3, 4), (12, 3, 10), (6, 13, 4), (6, 8, 4), (11, 8, 4)]
noncomputable def pts4 : List Str := ["a", "b", "c", "d"]
noncomputable def nbT : List (List Nat) := [[], [0, 2, 0, 5, 6, 0, 0, 0, 11, 0, 12, 0, 0, 0, 0, 0, 0], [0, 3, 7, 0, 8, 0, 13, 0, 0, 14, 0, 0, 0, 0, 0, 0, 0], [0, 4, 9, 10, 0, 15, 0, 16, 0, 0, 0, 0, 0, 0, 0, 0, 0]]
/-- the way of the i-th point -/
noncomputable def cAt (x : Cfg) : Nat → Nat
  | 0 => 1
  | 1 => x.1
  | 2 => x.2.1
  | _ => x.2.2
noncomputable def cPut (x : Cfg) (k : Nat) : Nat → Cfg
  | 0 => x
  | 1 => (k, x.2.1, x.2.2)
  | 2 => (x.1, k, x.2.2)
  | _ => (x.1, x.2.1, k)
noncomputable def pNo (q : Str) : Nat := pts4.idxOf q
noncomputable def cLk (x : Cfg) (q : Str) : Option Str := wy (cAt x (pNo q))
noncomputable def cStep (x : Cfg) (f r : Nat) : Cfg := cPut x ((nbT.getD f []).getD (cAt x r) 0) f
theorem cfg_step : (cfgs.all fun x => (List.range 3).all fun f => (List.range 4).all fun r => !(cAt x (f + 1) == 0 && cAt x r != 0) || (cfgs.contains (cStep x (f + 1) r) && (nbT.getD (f + 1) []).getD (cAt x r) 0 != 0 && decide (cAt x r ≤ 16) && decide ((nbT.getD (f + 1) []).getD (cAt x r) 0 ≤ 16))) = true := by decide +kernel
theorem nb_txt : ((List.range 3).all fun f => (List.range 17).all fun k => (nbT.getD (f + 1) []).getD k 0 == 0 || wy ((nbT.getD (f + 1) []).getD k 0) == some (pts4.getD (f + 1) "" ++ (wy k).getD "")) = true := by decide +kernel
theorem wy_some {k : Nat} (h : k ≤ 16) : (wy k).isSome = (k != 0) := by
  have : ((List.range 17).all fun k => (wy k).isSome == (k != 0)) = true := by decide +kernel
  rw [List.all_eq_true] at this
  simpa using this k (by simp; omega)
theorem cfg_le : (cfgs.all fun x => (List.range 4).all fun i => decide (cAt x i ≤ 16)) = true := by decide +kernel
theorem cAt_le {x : Cfg} (hx : x ∈ cfgs) {i : Nat} (hi : i < 4) : cAt x i ≤ 16 := by
  have h := cfg_le
  rw [List.all_eq_true] at h
  have h2 := h x hx
  rw [List.all_eq_true] at h2
  simpa using h2 i (by simpa using hi)
theorem pts_at {q : Str} (h : q ∈ pts4) : pNo q < 4 ∧ pts4.getD (pNo q) "" = q := by
  have : ∀ q ∈ pts4, pNo q < 4 ∧ pts4.getD (pNo q) "" = q := by decide +kernel
  exact this q h
theorem pts3_at {q : Str} (h : q ∈ pts3) : ∃ f, f < 3 ∧ pNo q = f + 1 := by
  have : ∀ q ∈ pts3, 1 ≤ pNo q ∧ pNo q < 4 := by decide +kernel
  obtain ⟨h1, h2⟩ := this q h
  exact ⟨pNo q - 1, by omega, by omega⟩
theorem pNo_inj {q r : Str} (hq : q ∈ pts4) (hr : r ∈ pts4) (h : pNo q = pNo r) : q = r := by
  rw [← (pts_at hq).2, ← (pts_at hr).2, h]
theorem pts34 {q : Str} (h : q ∈ pts3) : q ∈ pts4 := List.mem_cons_of_mem _ h
theorem cAt_put {x : Cfg} {f k i : Nat} (hf : f < 3) (hi : i < 4) : cAt (cPut x k (f + 1)) i = if i = f + 1 then k else cAt x i := by
  match f, hf, i, hi with
  | 0, _, 0, _ => rfl
  | 0, _, 1, _ => rfl
  | 0, _, 2, _ => rfl
  | 0, _, 3, _ => rfl
  | 1, _, 0, _ => rfl
  | 1, _, 1, _ => rfl
  | 1, _, 2, _ => rfl
  | 1, _, 3, _ => rfl
  | 2, _, 0, _ => rfl
  | 2, _, 1, _ => rfl
  | 2, _, 2, _ => rfl
  | 2, _, 3, _ => rfl
/-- the ways of a fire are those of a number -/
noncomputable def GoodC (s : BSt) : Prop := ∃ x ∈ cfgs, ∀ q ∈ pts4, s.ways.lookup q = cLk x q
theorem cLk_some {x : Cfg} (hx : x ∈ cfgs) {q : Str} (hq : q ∈ pts4) : (cLk x q).isSome = (cAt x (pNo q) != 0) := wy_some (cAt_le hx (pts_at hq).1)
theorem cLk_step {x : Cfg} (hx : x ∈ cfgs) {q r : Str} {v : Str} (hq : q ∈ pts3) (hr : r ∈ pts4) (h0 : cLk x q = none) (h1 : cLk x r = some v) : ∃ y ∈ cfgs, ∀ z ∈ pts4, cLk y z = if z = q then some (q ++ v) else cLk x z := by
  obtain ⟨f, hf, hqf⟩ := pts3_at hq
  have hrl := (pts_at hr).1
  have a0 : cAt x (f + 1) = 0 := by
    have := cLk_some hx (pts34 hq)
    rw [h0, hqf] at this
    simpa using this.symm
  have a1 : cAt x (pNo r) ≠ 0 := by
    have := cLk_some hx hr
    rw [h1] at this
    simpa using this.symm
  have h := cfg_step
  rw [List.all_eq_true] at h
  have h2 := h x hx
  rw [List.all_eq_true] at h2
  have h3 := h2 f (by simpa using hf)
  rw [List.all_eq_true] at h3
  have h4 := h3 (pNo r) (by simpa using hrl)
  have a2 : (cAt x (pNo r) != 0) = true := by simpa using a1
  rw [a0, a2] at h4
  simp only [beq_self_eq_true, Bool.and_self, Bool.not_true, Bool.false_or, Bool.and_eq_true, decide_eq_true_eq] at h4
  obtain ⟨⟨⟨h5, h6⟩, h7⟩, h8⟩ := h4
  refine ⟨cStep x (f + 1) (pNo r), by simpa using h5, fun z hz => ?_⟩
  have hzl := (pts_at hz).1
  unfold cLk cStep
  rw [cAt_put hf hzl]
  by_cases e : z = q
  · subst e
    rw [if_pos hqf, if_pos rfl]
    have t := nb_txt
    rw [List.all_eq_true] at t
    have t2 := t f (by simpa using hf)
    rw [List.all_eq_true] at t2
    have t3 := t2 (cAt x (pNo r)) (by simp; omega)
    have h6' : ((nbT.getD (f + 1) []).getD (cAt x (pNo r)) 0 == 0) = false := by simpa using h6
    rw [h6', Bool.false_or] at t3
    have h1' : wy (cAt x (pNo r)) = some v := h1
    rw [h1', ← hqf, (pts_at hz).2] at t3
    rw [← hqf]
    exact beq_iff_eq.mp t3
  · rw [if_neg (fun h => e (pNo_inj hz (pts34 hq) (h.trans hqf.symm))), if_neg e]
theorem GoodC.ask {i : Nat} {s : BSt} {t : Str} (g : GoodB i s) (c : GoodC s) (ht : t ∈ ties) (hr : readyB s t = true) : GoodC (askB s t) := by
  obtain ⟨h1, h2, h3⟩ := far_pts g ht hr
  obtain ⟨x, hx, hl⟩ := c
  have hn4 : nearB s t ∈ pts4 := by
    have hp := tie_pts t ht
    unfold nearB
    split
    · exact hp.1
    · exact hp.2
  unfold askB
  split
  · unfold inW at h2 h3
    obtain ⟨v, hv⟩ := Option.isSome_iff_exists.mp h3
    have h0 : s.ways.lookup (farB s t) = none := by simpa using h2
    obtain ⟨y, hy, hz⟩ := cLk_step hx h1 hn4 ((hl _ (pts34 h1)).symm.trans h0) ((hl _ hn4).symm.trans hv)
    refine ⟨y, hy, fun q hq => ?_⟩
    rw [hz q hq]
    show (setP _ _ _).lookup q = _
    rw [setP_lookup, hv]
    split
    · rfl
    · exact hl q hq
  · exact ⟨x, hx, hl⟩
theorem GoodC.step {i : Nat} {s : BSt} {row : List Str} (hrow : ∀ t ∈ row, t ∈ ties) (g : GoodB i s) (c : GoodC s) : GoodC (burnStep row s) := by
  unfold burnStep
  cases h : row.filter (readyB s) with
  | nil => exact c
  | cons t r =>
    have hm : t ∈ row.filter (readyB s) := by rw [h]; exact List.mem_cons_self
    exact c.ask g (hrow t (List.mem_filter.mp hm).1) (List.mem_filter.mp hm).2
theorem GoodC.it {b c d : Int} {row : List Str} (hrow : ∀ t ∈ row, t ∈ ties) : ∀ k, GoodC (burnIt row (burn0 b c d) k)
  | 0 => ⟨(0, 0, 0), by decide +kernel, by
      have : ∀ q ∈ pts4, (burn0 0 0 0).ways.lookup q = cLk (0, 0, 0) q := by decide +kernel
      exact this⟩
  | k + 1 => (GoodC.it hrow k).step hrow (GoodB.it hrow k)
theorem GoodC.way {s : BSt} (c : GoodC s) {q v : Str} (hq : q ∈ pts4) (h : s.ways.lookup q = some v) : v ∈ wayT := by
  obtain ⟨x, hx, hl⟩ := c
  have h2 : wy (cAt x (pNo q)) = some v := (hl q hq).symm.trans h
  cases hk : cAt x (pNo q) with
  | zero => rw [hk] at h2; cases h2
  | succ k => rw [hk] at h2; exact List.mem_of_getElem? h2

/-! hosts -/
noncomputable def hostTxt (w : Str) : Str := Txt.join "." (sgs w) ++ ".local"
noncomputable def hostOf (s : BSt) (q : Str) : Str := match s.ways.lookup q with
  | some w => hostTxt w
  | none => q
noncomputable def hostL (s : BSt) : List (Str × Str) := pts4.map fun q => (q, hostOf s q)
noncomputable def burnL (s : BSt) : List (Str × Bool) := pts4.map fun q => (q, inW s q)
theorem host_ip : ∀ w ∈ wayT, ipOut (Txt.lower (hostTxt w)) = some false ∧ udmL (Txt.lower (hostTxt w)) (Txt.lower ".LOCAL") false false = true ∧ (Txt.lower (hostTxt w)).length ≤ 1000 ∧ (hostTxt w).length ≤ 900 := by decide +kernel
theorem local_ip : ipOut (Txt.lower ".LOCAL") = some false ∧ (Txt.lower ".LOCAL").length ≤ 1000 := by decide +kernel
theorem host_glue : ∀ w ∈ wayT, ∀ q ∈ pts3, hostTxt (q ++ w) = q ++ "." ++ hostTxt w := by decide +kernel
theorem map_lookup {α : Type} (f : Str → α) {q : Str} : ∀ {l : List Str}, q ∈ l → (l.map fun z => (z, f z)).lookup q = some (f q)
  | [], h => by simp at h
  | z :: l, h => by
    rw [List.map_cons, List.lookup_cons]
    by_cases e : q = z
    · subst e; simp
    · have : (q == z) = false := by simpa using e
      rw [this]
      exact map_lookup f ((List.mem_cons.mp h).resolve_left e)
theorem setP_map {α : Type} (f : Str → α) {q : Str} {v : α} : ∀ {l : List Str}, q ∈ l → l.Nodup → setP (l.map fun z => (z, f z)) q v = l.map fun z => (z, if z = q then v else f z)
  | [], h, _ => by simp at h
  | z :: l, h, hn => by
    rw [List.nodup_cons] at hn
    rw [List.map_cons, setP]
    by_cases e : z = q
    · subst e
      rw [if_pos rfl, List.map_cons, if_pos rfl]
      congr 1
      refine List.map_congr_left fun y hy => ?_
      rw [if_neg (fun (e : y = z) => hn.1 (e ▸ hy))]
    · rw [if_neg e, List.map_cons, if_neg e, setP_map f ((List.mem_cons.mp h).resolve_left (Ne.symm e)) hn.2]
theorem pts4_nd : pts4.Nodup := by decide +kernel

/-! lines -/
noncomputable def whites : List Str := ["", " ", "\t \n", "\u2003"]
noncomputable def bot : Str × Str := ("#\n#\n", "# #  \t. .\n.")
noncomputable def lineNow (s : BSt) (wh : Str → Str) (t : Str) : Str := if t ∈ s.asked then "# " ++ t else t ++ wh t
noncomputable def tops (s : BSt) (row : List Str) (wh : Str → Str) : List (Str × Str) := (row.map fun t => (("\n" : Str), lineNow s wh t)) ++ [bot]
noncomputable def lineSet : List Str := bot.2 :: (ties.map (fun t => ("# " : Str) ++ t) ++ ties.flatMap fun t => whites.map fun v => t ++ v)
theorem line_ok : ∀ x ∈ lineSet, (seqIndex? 0 x.length).bind (x.cps[·]?) = some (x.cps.getD 0 0) ∧ (seqIndex? 1 x.length).bind (x.cps[·]?) = some (x.cps.getD 1 0) ∧ x.length ≤ 100 ∧ (x == "") = false ∧ (sg x 0 = "#" ∨ (sg x 0 ∈ pts4 ∧ sg x 1 ∈ pts4)) := by decide +kernel
theorem line_tie : ∀ t ∈ ties, ∀ v ∈ whites, cmt (t ++ v) = "# " ++ t ∧ sg (t ++ v) 0 = sg t 0 ∧ sg (t ++ v) 1 = sg t 1 ∧ (sg t 0 == "#") = false ∧ (t ++ v).length ≤ 100 ∧ (Txt.rstrip (t ++ v)).length ≤ 100 := by decide +kernel
theorem line_cmt : ∀ t ∈ ties, (sg ("# " ++ t) 0 == "#") = true := by decide +kernel
theorem bot_idle : (sg bot.2 0 == "#") = true := by decide +kernel
noncomputable def idleB (s : BSt) (x : Str) : Bool := (sg x 0 == "#") || (inW s (sg x 0) == inW s (sg x 1))
theorem lineNow_mem {s : BSt} {wh : Str → Str} {t : Str} (ht : t ∈ ties) (hw : wh t ∈ whites) : lineNow s wh t ∈ lineSet := by
  unfold lineNow lineSet
  split
  · exact List.mem_cons_of_mem _ (List.mem_append_left _ (List.mem_map.mpr ⟨t, ht, rfl⟩))
  · exact List.mem_cons_of_mem _ (List.mem_append_right _ (List.mem_flatMap.mpr ⟨t, ht, List.mem_map.mpr ⟨wh t, hw, rfl⟩⟩))
theorem tops_mem {s : BSt} {row : List Str} {wh : Str → Str} (hrow : ∀ t ∈ row, t ∈ ties) (hwh : ∀ t ∈ row, wh t ∈ whites) {q : Str × Str} (h : q ∈ tops s row wh) : q.2 ∈ lineSet ∧ q.1.length ≤ 100 := by
  rcases List.mem_append.mp h with h | h
  · obtain ⟨t, ht, rfl⟩ := List.mem_map.mp h
    exact ⟨lineNow_mem (hrow t ht) (hwh t ht), show (1 : Nat) ≤ 100 by decide⟩
  · rw [List.mem_singleton.mp h]
    exact ⟨List.mem_cons_self, show (4 : Nat) ≤ 100 by decide⟩
theorem idle_ready {s : BSt} {wh : Str → Str} {t : Str} (ht : t ∈ ties) (hw : wh t ∈ whites) : idleB s (lineNow s wh t) = !readyB s t := by
  obtain ⟨_, h1, h2, h3, _⟩ := line_tie t ht (wh t) hw
  unfold idleB lineNow readyB
  by_cases e : t ∈ s.asked
  · rw [if_pos e, line_cmt t ht]; simp [e]
  · rw [if_neg e, h1, h2, h3]; simp [e, bne]
end Mine
end
section
open PySem PySem.Spec PySem.Calls PyProof.Rows PySem.W
namespace Mine
variable {p : Program} {w : World} {K : Frag} {n : Nat} {env : Env} {σ : Store} {N N' : Store → Prop} {R : D → Prop} {rest : List Stmt}
/-- while: the test and what comes of it, from the invariant -/
theorem X.while2 {test : Expr} {body : List Stmt} {pos : Pos} (Inv : Nat → Store → Prop) (k₀ : Nat) (h0 : Inv k₀ σ)
    (ht : ∀ k σ', Inv k σ' → ∃ b, EvB p w K n env σ' test b ∧ (b = true → X p w K n env σ' body (fun σ'' => ∃ k' < k, Inv k' σ'') R) ∧ (b = false → X p w K n env σ' rest N R)) :
    X p w K n env σ (.While test body [] pos :: rest) N R := by
  refine X.mk fun B O₀ A s Q E ok st hN hR => ?_
  refine wpAny_execs_cons (wpAny_While ?_)
  refine codeAny_whileLoop (fun k s' => ∃ σ', Inv k σ' ∧ StS p w K B O₀ env σ' s') ?_ k₀ ⟨σ, h0, st⟩
  rintro k s' ⟨σ', hinv, st'⟩
  obtain ⟨b, hb, h1, h2⟩ := ht k σ' hinv
  refine hb _ A s' _ _ _ ok st'.e rfl fun s₂ y => ?_
  have st2 := st'.sh y
  cases b with
  | true =>
    simp only [if_true]
    exact (h1 rfl).run B O₀ A s₂ _ _ ok st2 (fun s3 σ3 ⟨k', hk', hi⟩ st3 => ⟨k', hk', σ3, hi, st3⟩) hR
  | false =>
    simp only [Bool.false_eq_true, if_false]
    exact wpAny_execs_nil ((h2 rfl).run B O₀ A s₂ Q E ok st2 hN hR)

theorem join_len (a b : Str) : (Txt.join "" [a, b]).length ≤ a.length + b.length := by
  have h1 := StrLaws.join_length_le "" [a, b]
  rw [← StrLaws.glued_eq_join] at h1
  change (Txt.join "" [a, b]).length ≤ _ at h1
  have h4 : ("" : Str).length = 0 := rfl
  rw [h4, Nat.mul_zero, Nat.add_zero] at h1
  simpa using h1
theorem glued_sum {m : Nat} : ∀ {ps : List (Str × Str)}, (∀ q ∈ ps, q.1.length ≤ m ∧ q.2.length ≤ m) → ((glued ps).map (·.length)).sum ≤ ps.length * (2 * m)
  | [], _ => by simp [glued]
  | q :: ps, h => by
    have ih := glued_sum fun z hz => h z (List.mem_cons_of_mem _ hz)
    have h1 := h q List.mem_cons_self
    have h2 := join_len q.1 q.2
    have e : ((glued (q :: ps)).map (·.length)).sum = (Txt.join "" [q.1, q.2]).length + ((glued ps).map (·.length)).sum := by
      simp only [glued, List.map_cons, List.sum_cons]
    rw [e, List.length_cons, Nat.succ_mul]
    omega
theorem pz_of {first : Int} {ps : List (Str × Str)} (hf : 0 ≤ first ∧ first ≤ 1000) (hl : ps.length ≤ 20) (h : ∀ q ∈ ps, q.1.length ≤ 100 ∧ q.2.length ≤ 100) : PzOk first ps where
  first := hf
  each := fun q hq => ⟨Nat.le_trans (h q hq).1 (by decide), Nat.le_trans (h q hq).2 (by decide)⟩
  many := Nat.le_trans hl (by decide)
  text := by
    have h1 := glued_sum h
    have h2 : ps.length * (2 * 100) ≤ 20 * (2 * 100) := Nat.mul_le_mul_right _ hl
    omega
end Mine
end
section
open PySem PySem.Spec PySem.Calls PyProof.Rows PySem.W
namespace Mine
variable {p : Program} {w : World} {K : Frag} {n : Nat} {env : Env} {σ : Store} {N N' : Store → Prop} {R : D → Prop} {rest : List Stmt}
/-- what a turn of the fire leaves of the pile, and of the rest -/
structure FireS (s : BSt) (row : List Str) (wh : Str → Str) (first : Int) (pl : List (Str × Str)) (σ : Store) : Prop where
  pile : ∃ a dx, σ.lookup ("pile" : Str) = some (.pil a dx first (pilD pl))
  hosts : ∃ a, σ.lookup ("hosts" : Str) = some (.dct a (toK .str (hostL s)))
  burns : ∃ a, σ.lookup ("burns" : Str) = some (.dct a (toK .bool (burnL s)))
  left : ∃ a, σ.lookup ("left" : Str) = some (.dct a (toK .int s.left))
  lines : σ.lookup ("lines" : Str) = some (.val (.list (row.map fun t => .str (t ++ wh t))))
theorem FireS.put {s : BSt} {row : List Str} {wh : Str → Str} {first : Int} {pl : List (Str × Str)} (h : FireS s row wh first pl σ) {x : Str} {e : Ent} (hx : x ∉ (["pile", "hosts", "burns", "left", "lines"] : List Str)) : FireS s row wh first pl (put σ x e) := by
  simp only [List.mem_cons, List.not_mem_nil, or_false, not_or] at hx
  obtain ⟨h1, h2, h3, h4, h5⟩ := hx
  obtain ⟨⟨a, dx, e1⟩, ⟨b, e2⟩, ⟨c, e3⟩, ⟨d, e4⟩, e5⟩ := h
  exact ⟨⟨a, dx, lkN e1 (Ne.symm h1)⟩, ⟨b, lkN e2 (Ne.symm h2)⟩, ⟨c, lkN e3 (Ne.symm h3)⟩, ⟨d, lkN e4 (Ne.symm h4)⟩, lkN e5 (Ne.symm h5)⟩
theorem FireS.putPile {s : BSt} {row : List Str} {wh : Str → Str} {first : Int} {pl pl' : List (Str × Str)} {a dx : Addr} (h : FireS s row wh first pl σ) : FireS s row wh first pl' (Mine.put σ "pile" (.pil a dx first (pilD pl'))) := by
  obtain ⟨⟨_, _, e1⟩, ⟨b, e2⟩, ⟨c, e3⟩, ⟨d, e4⟩, e5⟩ := h
  exact ⟨⟨a, dx, lkE⟩, ⟨b, lkN e2⟩, ⟨c, lkN e3⟩, ⟨d, lkN e4⟩, lkN e5⟩
noncomputable def fireTurn : List Stmt := match fFire.body with
  | .stmts b => (match b[7]? with | some (Stmt.For _ _ body _ _) => body | _ => [])
  | _ => []
theorem tops_split {tl : List (Str × Str)} {j : Nat} (hj : j < tl.length) : (tl.drop j).reverse = (tl.drop (j + 1)).reverse ++ [tl[j]] := by
  rw [List.drop_eq_getElem_cons hj, List.reverse_cons]
theorem inW_burn {s : BSt} {q : Str} (hq : q ∈ pts4) : getK (toK .bool (burnL s)) q = some (.bool (inW s q)) := by
  rw [getK_toK, burnL, map_lookup (inW s) hq]; rfl
theorem host_get {s : BSt} {q : Str} (hq : q ∈ pts4) : getK (toK .str (hostL s)) q = some (.str (hostOf s q)) := by
  rw [getK_toK, hostL, map_lookup (hostOf s) hq]; rfl

/-- a sign of a line -/
theorem Ev.lsign0 {e i : Expr} {pos : Pos} {x : Str} (hx : x ∈ lineSet) (he : Ev p w K n env σ e (.str x)) (hi : Ev p w K n env σ i (.int 0)) (hs : ∀ o j, subscripted i false o j = operate [o, j] (getItem o j)) : Ev p w K n env σ (.Subscript e i pos) (.str (sg x 0)) :=
  Ev.sub (Ev.v he) (Ev.v hi) (IdxOk.str (by decide) (line_ok x hx).1) hs
theorem Ev.lsign1 {e i : Expr} {pos : Pos} {x : Str} (hx : x ∈ lineSet) (he : Ev p w K n env σ e (.str x)) (hi : Ev p w K n env σ i (.int 1)) (hs : ∀ o j, subscripted i false o j = operate [o, j] (getItem o j)) : Ev p w K n env σ (.Subscript e i pos) (.str (sg x 1)) :=
  Ev.sub (Ev.v he) (Ev.v hi) (IdxOk.str (by decide) (line_ok x hx).2.1) hs

/-- the end of a turn: what lay aside is laid back -/
theorem fire_back {kp : KP p K} {L : Addr} {s : BSt} {row : List Str} {wh : Str → Str} {first : Int} {base as : List (Str × Str)} {a : Addr} (hf : 0 ≤ first ∧ first ≤ 1000) (hl : base.length + as.length ≤ 20)
    (h : FireS s row wh first base σ) (ha : σ.lookup ("aside" : Str) = some (.lst a (pilD as))) :
    X p w K n (callEnvC fFire L 189) σ (fireTurn.drop 4) (FireS s row wh first (base ++ as.reverse)) R := by
  refine X.for (tp := true) (ds := pilD as.reverse) (f := fTwo "lead" "line") (fun i σ' => FireS s row wh first (base ++ as.reverse.take i) σ') ?_ (cnOk (by decide)) ?_ .tuple (by simpa using h) ?_ ?_
  · have := Ev.rev (p := p) (w := w) (K := K) (n := n) (env := callEnvC fFire L 189) (σ := σ) (ds := pilD as) (l := .Name "aside" ⟨150, 26, 150, 31⟩) (sp := ⟨150, 32, 150, 36⟩) (pos := ⟨150, 26, 150, 37⟩) (e := .UnaryOp .USub (.Constant (.int 1) 0 ⟨150, 35, 150, 36⟩) ⟨150, 34, 150, 36⟩) (EvV.name ha rfl) (Ev.neg .int) (by
      rw [pilD, List.length_map]; exact Nat.le_trans (Nat.le_trans (Nat.le_add_left _ _) hl) (by decide))
    have e : (pilD as).reverse = pilD as.reverse := by simp [pilD]
    rw [e] at this
    exact EvW.list this
  · intro d hd
    obtain ⟨q, hq, rfl⟩ := List.mem_map.mp hd
    exact Asg.two (.inl rfl) (by decide) (.inl rfl) (by decide)
  · intro i d σ' hd hI
    have hi : ∃ q, as.reverse[i]? = some q ∧ d = .tup [.str q.1, .str q.2] := by
      rw [pilD, List.getElem?_map] at hd
      cases hq : as.reverse[i]? with
      | none => rw [hq] at hd; cases hd
      | some q => rw [hq] at hd; exact ⟨q, rfl, (Option.some.inj hd).symm⟩
    obtain ⟨q, hq, rfl⟩ := hi
    have htk : as.reverse.take (i + 1) = as.reverse.take i ++ [q] := by rw [List.take_add_one, hq]; rfl
    have h2 : FireS s row wh first (base ++ as.reverse.take i) (put (put σ' "lead" (.val (.str q.1))) "line" (.val (.str q.2))) := (hI.put (by decide)).put (by decide)
    obtain ⟨pa, px, hp⟩ := h2.pile
    refine X.step (Stp.push kp hp (.cons (Ev.name (lkN lkE)) (EvLs.one (Ev.name lkE))) ?_ rfl rfl rfl rfl rfl) (X.nil ?_)
    · rw [List.length_append, List.length_take, List.length_reverse]; omega
    · rw [htk, ← List.append_assoc]
      exact h2.putPile
  · intro σ' hI
    have : as.reverse.take (pilD as.reverse).length = as.reverse := by rw [pilD, List.length_map, List.take_length]
    rw [this] at hI
    exact X.nil hI
end Mine
end
section
open PySem PySem.Spec PySem.Calls PyProof.Rows PySem.W
namespace Mine
variable {p : Program} {w : World} {K : Frag} {n : Nat} {env : Env} {σ : Store} {N N' : Store → Prop} {R : D → Prop} {rest : List Stmt}
theorem toK_len {α : Type} (f : α → D) (l : List (Str × α)) : (toK f l).length = l.length := by rw [toK, List.length_map]
/-- what a turn strikes -/
theorem tops_ask {s : BSt} {row : List Str} {wh : Str → Str} {t : Str} {j : Nat} (hnd : row.Nodup) (hj : row[j]? = some t) {s' : BSt} (hs : s'.asked = s.asked ++ [t]) :
    tops s' row wh = (tops s row wh).take j ++ [(("\n" : Str), "# " ++ t)] ++ (tops s row wh).drop (j + 1) := by
  have hjl : j < row.length := by
    rcases Nat.lt_or_ge j row.length with q | q
    · exact q
    · rw [List.getElem?_eq_none q] at hj; cases hj
  have hrow : row = row.take j ++ t :: row.drop (j + 1) := by
    have h1 := List.take_append_drop j row
    have h2 : row.drop j = t :: row.drop (j + 1) := by
      rw [List.drop_eq_getElem_cons hjl]
      rw [List.getElem?_eq_getElem hjl] at hj
      rw [Option.some.inj hj]
    rw [h2] at h1; exact h1.symm
  have hn := hnd
  rw [hrow, List.nodup_append] at hn
  have n1 : ∀ z ∈ row.take j, z ≠ t := fun z hz => hn.2.2 z hz t List.mem_cons_self
  have n2 : ∀ z ∈ row.drop (j + 1), z ≠ t := fun z hz e => (List.nodup_cons.mp hn.2.1).1 (e ▸ hz)
  have same : ∀ z, z ≠ t → lineNow s' wh z = lineNow s wh z := fun z hz => by
    unfold lineNow; rw [hs]; simp [hz]
  have e1 : ∀ l : List Str, (∀ z ∈ l, z ≠ t) → l.map (fun t => (("\n" : Str), lineNow s' wh t)) = l.map (fun t => (("\n" : Str), lineNow s wh t)) := fun l hl =>
    List.map_congr_left fun z hz => by rw [same z (hl z hz)]
  have hT : lineNow s' wh t = "# " ++ t := by unfold lineNow; rw [hs, if_pos (by simp)]
  have a1 : (tops s row wh).take j = (row.take j).map fun t => (("\n" : Str), lineNow s wh t) := by
    rw [tops, List.take_append_of_le_length (by rw [List.length_map]; omega), List.map_take]
  have a2 : (tops s row wh).drop (j + 1) = ((row.drop (j + 1)).map fun t => (("\n" : Str), lineNow s wh t)) ++ [bot] := by
    rw [tops, List.drop_append_of_le_length (by rw [List.length_map]; omega), List.map_drop]
  rw [a1, a2]
  conv => lhs; rw [tops, hrow]
  rw [List.map_append, List.map_cons, e1 _ n1, e1 _ n2, hT]
  simp

section
variable {L : Addr} {s : BSt} {row : List Str} {wh : Str → Str} {first : Int} {i : Nat}
/-- the line found is struck, and its far point asked -/
theorem fire_ask (kp : KP p K) (kr : KR K) (hrow : ∀ t ∈ row, t ∈ ties) (hwh : ∀ t ∈ row, wh t ∈ whites) (g : GoodB i s) (gc : GoodC s) {t : Str} (ht : t ∈ row) (hr : readyB s t = true) {base : List (Str × Str)} (hb : base.length ≤ 20)
    (h : FireS s row wh first base σ) (hfd : σ.lookup ("found" : Str) = some (.val (.str (t ++ wh t)))) {tst : Expr} {body orelse : List Stmt} {pos : Pos} (hst : fireTurn[3]? = some (.If tst body orelse pos)) {Nx : Store → Prop}
    (hN : ∀ σ', (∀ z, z ∉ (["pile", "hosts", "burns", "left", "lines", "near", "far"] : List Str) → σ'.lookup z = σ.lookup z) → FireS (askB s t) row wh first (base ++ [(("\n" : Str), "# " ++ t)]) σ' → Nx σ') :
    X p w K (n + 2) (callEnvC fFire L 189) σ body Nx R := by
  have htt := hrow t ht
  obtain ⟨c1, c2, c3, c4, c5, c6⟩ := line_tie t htt (wh t) (hwh t ht)
  obtain ⟨l1, l2, l3⟩ := far_pts g htt hr
  have hp4 := tie_pts t htt
  injection hst with hst
  injection hst with _ hbody _ _
  subst hbody
  obtain ⟨pa, px, hpl⟩ := h.pile
  have lmem : t ++ wh t ∈ lineSet := List.mem_cons_of_mem _ (List.mem_append_right _ (List.mem_flatMap.mpr ⟨t, htt, List.mem_map.mpr ⟨wh t, hwh t ht, rfl⟩⟩))
  have hz6 : ∀ {m : Nat}, m ≤ 1000 → m ≤ sizeLine := fun h => Nat.le_trans h (by decide)
  -- push
  refine X.step (Stp.push (ps := base) (sa := "\n") (sb := "# " ++ t) kp hpl (.cons .str (EvLs.one ?_)) (Nat.le_trans hb (by decide)) rfl rfl rfl rfl rfl) ?_
  · refine Ev.to (d := .str (cmt (t ++ wh t))) (by rw [c1]) (Ev.callF (EvG.g kp.kx 0) (kp.kx.f (fd := fComment) 0).keep (EvLs.one (Ev.name hfd)) rfl ((cmt_fn kp.kx (Nat.le_trans c5 (by decide)) (Nat.le_trans c6 (by decide)) : Fn p w K (n + 2) 45 _ _)))
  have h1 : FireS s row wh first (base ++ [(("\n" : Str), "# " ++ t)]) (put σ "pile" (.pil pa px first (pilD (base ++ [(("\n" : Str), "# " ++ t)])))) := h.putPile
  have k1 : ∀ z, z ∉ (["pile", "hosts", "burns", "left", "lines", "near", "far"] : List Str) → (put σ "pile" (.pil pa px first (pilD (base ++ [(("\n" : Str), "# " ++ t)])))).lookup z = σ.lookup z := fun z hz => by
    rw [lookup_put, if_neg (fun e => hz (by simp [e]))]
  have f1 : (put σ "pile" (.pil pa px first (pilD (base ++ [(("\n" : Str), "# " ++ t)])))).lookup ("found" : Str) = some (.val (.str (t ++ wh t))) := lkN hfd
  generalize put σ "pile" (.pil pa px first (pilD (base ++ [(("\n" : Str), "# " ++ t)]))) = S1 at h1 k1 f1 ⊢
  have l0 : ∀ {q1 q2 q3 : Pos} {k : Nat}, Ev p w K (n + 2) (callEnvC fFire L 189) S1 (.Subscript (.Name "found" q1) (.Constant (.int 0) k q2) q3) (.str (sg t 0)) := Ev.to (by rw [c2]) (Ev.lsign0 lmem (Ev.name f1) .int fun _ _ => rfl)
  have l1' : ∀ {q1 q2 q3 : Pos} {k : Nat}, Ev p w K (n + 2) (callEnvC fFire L 189) S1 (.Subscript (.Name "found" q1) (.Constant (.int 1) k q2) q3) (.str (sg t 1)) := Ev.to (by rw [c3]) (Ev.lsign1 lmem (Ev.name f1) .int fun _ _ => rfl)
  refine X.swap (a := .str (sg t 0)) (b := .str (sg t 1)) (Ev.tup (.cons l0 (EvLs.one l1')) (show (2 : Nat) ≤ sizeLine by decide)) rfl (by decide) rfl (by decide) rfl rfl ?_
  have h2 : FireS s row wh first (base ++ [(("\n" : Str), "# " ++ t)]) (put (put S1 "far" (.val (.str (sg t 1)))) "near" (.val (.str (sg t 0)))) := (h1.put (by decide)).put (by decide)
  have k2 : ∀ z, z ∉ (["pile", "hosts", "burns", "left", "lines", "near", "far"] : List Str) → (put (put S1 "far" (.val (.str (sg t 1)))) "near" (.val (.str (sg t 0)))).lookup z = σ.lookup z := fun z hz => by
    rw [lookup_put, if_neg (fun e => hz (by simp [e])), lookup_put, if_neg (fun e => hz (by simp [e]))]; exact k1 z hz
  have f2 : (put (put S1 "far" (.val (.str (sg t 1)))) "near" (.val (.str (sg t 0)))).lookup ("far" : Str) = some (.val (.str (sg t 1))) := lkN lkE
  have n2 : (put (put S1 "far" (.val (.str (sg t 1)))) "near" (.val (.str (sg t 0)))).lookup ("near" : Str) = some (.val (.str (sg t 0))) := lkE
  generalize put (put S1 "far" (.val (.str (sg t 1)))) "near" (.val (.str (sg t 0))) = S2 at h2 k2 f2 n2 ⊢
  obtain ⟨ba, hba⟩ := h2.burns
  have hrx : (inW s (sg t 0) != inW s (sg t 1)) = true := by
    unfold readyB at hr
    rw [Bool.and_eq_true] at hr; exact hr.2
  refine X.ite (b := inW s (sg t 1)) (N' := fun U => FireS s row wh first (base ++ [(("\n" : Str), "# " ++ t)]) U ∧ (∀ z, z ∉ (["pile", "hosts", "burns", "left", "lines", "near", "far"] : List Str) → U.lookup z = σ.lookup z) ∧ U.lookup ("near" : Str) = some (.val (.str (nearB s t))) ∧ U.lookup ("far" : Str) = some (.val (.str (farB s t))))
    (EvB.valB (Ev.sub (EvV.name hba rfl) (Ev.v (Ev.name f2)) (IdxOk.dict (inW_burn hp4.2)) fun _ _ => rfl) fun _ => rfl) (fun hb => ?_) (fun hb => ?_) ?_
  · have h0 : inW s (sg t 0) = false := by rw [hb] at hrx; cases h : inW s (sg t 0) <;> simp_all
    refine X.swap (a := .str (sg t 1)) (b := .str (sg t 0)) (Ev.tup (.cons (Ev.name f2) (EvLs.one (Ev.name n2))) (show (2 : Nat) ≤ sizeLine by decide)) rfl (by decide) rfl (by decide) rfl rfl (X.nil ⟨(h2.put (by decide)).put (by decide), fun z hz => ?_, ?_, ?_⟩)
    · rw [lookup_put, if_neg (fun e => hz (by simp [e])), lookup_put, if_neg (fun e => hz (by simp [e]))]; exact k2 z hz
    · rw [lkE, nearB, h0]; rfl
    · rw [lkN lkE, farB, h0]; rfl
  · have h0 : inW s (sg t 0) = true := by rw [hb] at hrx; cases h : inW s (sg t 0) <;> simp_all
    refine X.nil ⟨h2, k2, ?_, ?_⟩
    · rw [n2, nearB, h0]; rfl
    · rw [f2, farB, h0]; rfl
  · rintro U ⟨h3, k3, n3, f3⟩
    obtain ⟨⟨pa, px, e1⟩, ⟨ha, e2⟩, ⟨ba, e3⟩, ⟨la, e4⟩, e5⟩ := h3
    have hn4 : nearB s t ∈ pts4 := by
      unfold nearB; split
      · exact hp4.1
      · exact hp4.2
    unfold inW at l2 l3
    obtain ⟨wv, hwv⟩ := Option.isSome_iff_exists.mp l3
    have hf0 : s.ways.lookup (farB s t) = none := by simpa using l2
    have hwT : wv ∈ wayT := gc.way hn4 hwv
    have gc' : GoodC (askB s t) := gc.ask g htt hr
    obtain ⟨lv, hlv⟩ := lookup_mem_keys (l := s.left) (x := farB s t) (by rw [g.keys]; exact l1)
    have gl : getK (toK .int s.left) (farB s t) = some (.int lv) := by rw [getK_toK, hlv]; rfl
    have hgn : hostOf s (nearB s t) = hostTxt wv := by unfold hostOf; rw [hwv]
    have gh : getK (toK .str (hostL s)) (nearB s t) = some (.str (hostTxt wv)) := by rw [host_get hn4, hgn]
    have hfl : (farB s t).length = 1 := by
      have lq : ∀ q ∈ pts3, q.length = 1 := by decide
      exact lq _ l1
    have hll : (toK D.int s.left).length ≤ 1000 := by
      have := congrArg List.length g.keys
      simp only [List.length_map] at this
      rw [toK_len, this]; decide
    have lft : ∀ {q1 q2 q3 : Pos}, Ev p w K (n + 2) (callEnvC fFire L 189) U (.Subscript (.Name "left" q1) (.Name "far" q2) q3) (.int lv) := Ev.sub (EvV.name e4 rfl) (Ev.v (Ev.name f3)) (IdxOk.dict gl) fun _ _ => rfl
    have hh := host_ip wv hwT
    refine X.ite (b := lv == 0) (N' := Nx) (EvB.cmp (Ev.v lft) (Ev.v .int) .eqI rfl) (fun hb => ?_) (fun hb => ?_) fun σ'' h => X.nil h
    · have hv : lv = 0 := by simpa using hb
      have hA : askB s t = { s with asked := s.asked ++ [t], ways := setP s.ways (farB s t) (farB s t ++ wv) } := by
        unfold askB; rw [hlv, hwv]; simp [hv]
      have hw' : ∀ z, (askB s t).ways.lookup z = if z = farB s t then some (farB s t ++ wv) else s.ways.lookup z := fun z => by rw [hA]; exact setP_lookup _ _ _ _
      have hfT : farB s t ++ wv ∈ wayT := gc'.way (pts34 l1) (by rw [hw', if_pos rfl])
      have hg := host_glue wv hwT _ l1
      have hh' := host_ip _ hfT
      have hHL : setP (hostL s) (farB s t) (hostTxt (farB s t ++ wv)) = hostL (askB s t) := by
        rw [hostL, setP_map (hostOf s) (pts34 l1) pts4_nd, hostL]
        refine List.map_congr_left fun z hz => ?_
        unfold hostOf
        rw [hw' z]
        by_cases e : z = farB s t
        · rw [if_pos e, if_pos e]
        · rw [if_neg e, if_neg e]
      have hBL : setP (burnL s) (farB s t) true = burnL (askB s t) := by
        rw [burnL, setP_map (inW s) (pts34 l1) pts4_nd, burnL]
        refine List.map_congr_left fun z hz => ?_
        unfold inW
        rw [hw' z]
        by_cases e : z = farB s t
        · rw [if_pos e, if_pos e]; rfl
        · rw [if_neg e, if_neg e]
      have e4l : (hostL s).length = 4 := by rw [hostL, List.length_map]; rfl
      have e4b : (burnL s).length = 4 := by rw [burnL, List.length_map]; rfl
      refine X.step (Stp.setK (d := .str (hostTxt (farB s t ++ wv))) e2 (Ev.name f3) (Ev.to (d := .str (farB s t ++ "." ++ hostTxt wv)) (by rw [hg]) (Ev.bin (Ev.v (Ev.bin (Ev.v (Ev.name f3)) (Ev.v .str) (BinOk.addS (a := farB s t) (b := ".") ?_))) (Ev.v (Ev.sub (EvV.name e2 rfl) (Ev.v (Ev.name n3)) (IdxOk.dict gh) fun _ _ => rfl)) (BinOk.addS (a := farB s t ++ ".") (b := hostTxt wv) ?_))) (by rw [toK_len, e4l]; decide)) ?_
      · rw [hfl]; decide
      · rw [str_len_append, hfl]
        have := hh.2.2.2
        have h1 : ("." : Str).length = 1 := rfl
        simp only [sizeLine]; omega
      rw [setK_toK, hHL]
      have f4 : (put U "hosts" (.dct ha (toK .str (hostL (askB s t))))).lookup ("far" : Str) = some (.val (.str (farB s t))) := lkN f3
      have hhost : hostOf (askB s t) (farB s t) = hostTxt (farB s t ++ wv) := by unfold hostOf; rw [hw', if_pos rfl]
      refine X.step (Stp.setK (d := .bool true) (lkN e3) (Ev.name f4) (Ev.to ?_ (Ev.callF (EvG.g kp.kx 5) (kp.kx.f (fd := fMatch) 2).keep (.cons (Ev.sub (EvV.name lkE rfl) (Ev.v (Ev.name f4)) (IdxOk.dict (host_get (pts34 l1))) fun _ _ => rfl) (EvLs.one .str)) rfl (udm_fn kp.kx kr (n := n) (ia := false) ?_ local_ip.1 ?_ local_ip.2))) (by rw [toK_len, e4b]; decide)) (X.nil ?_)
      · rw [hhost, hh'.2.1]
      · rw [hhost]; exact hh'.1
      · rw [hhost]; exact hh'.2.2.1
      rw [setK_toK, hBL]
      refine hN _ (fun z hz => ?_) ⟨⟨pa, px, lkN (lkN e1)⟩, ⟨ha, lkN lkE⟩, ⟨ba, lkE⟩, ⟨la, ?_⟩, lkN (lkN e5)⟩
      · rw [lookup_put, if_neg (fun e => hz (by simp [e])), lookup_put, if_neg (fun e => hz (by simp [e]))]; exact k3 z hz
      · rw [lkN (lkN e4), hA]
    · have hv : ¬ lv = 0 := by simpa using hb
      have hA : askB s t = { s with asked := s.asked ++ [t], left := setP s.left (farB s t) (lv - 1) } := by
        unfold askB; rw [hlv]; simp [hv]
      have hwy : (askB s t).ways = s.ways := by rw [hA]
      have hHL : hostL (askB s t) = hostL s := by unfold hostL hostOf; rw [hwy]
      have hBL : burnL (askB s t) = burnL s := by unfold burnL inW; rw [hwy]
      refine X.step (Stp.setK (d := .int (lv - 1)) e4 (Ev.name f3) (Ev.bin (Ev.v lft) (Ev.v .int) .subI) (hz6 hll)) (X.nil ?_)
      rw [setK_toK]
      refine hN _ (fun z hz => ?_) ⟨⟨pa, px, lkN e1⟩, ⟨ha, by rw [hHL]; exact lkN e2⟩, ⟨ba, by rw [hBL]; exact lkN e3⟩, ⟨la, ?_⟩, lkN e5⟩
      · rw [lookup_put, if_neg (fun e => hz (by simp [e]))]; exact k3 z hz
      · rw [lkE, hA]
end
end Mine
end
section
open PySem PySem.Spec PySem.Calls PyProof.Rows PySem.W
namespace Mine
variable {p : Program} {w : World} {K : Frag} {n : Nat} {env : Env} {σ : Store} {N N' : Store → Prop} {R : D → Prop} {rest : List Stmt}
section
variable {L : Addr} {s : BSt} {row : List Str} {wh : Str → Str} {first : Int} {i : Nat}
theorem tops_len : (tops s row wh).length = row.length + 1 := by rw [tops, List.length_append, List.length_map]; rfl
theorem tops_at {j : Nat} (hj : j < row.length) : (tops s row wh)[j]'(by rw [tops_len]; omega) = (("\n" : Str), lineNow s wh row[j]) := by
  simp only [tops]
  rw [List.getElem_append_left (by rw [List.length_map]; exact hj), List.getElem_map]
/-- the search -/
structure ScanS (s : BSt) (row : List Str) (wh : Str → Str) (first : Int) (j : Nat) (pl : List (Str × Str)) (fd : Str) (σ : Store) : Prop where
  fire : FireS s row wh first pl σ
  aside : ∃ a, σ.lookup ("aside" : Str) = some (.lst a (pilD ((tops s row wh).take j)))
  found : σ.lookup ("found" : Str) = some (.val (.str fd))
  idle : ∀ q ∈ (tops s row wh).take j, idleB s q.2 = true
  le : j ≤ (tops s row wh).length
theorem fire_turn (kp : KP p K) (kr : KR K) (hrow : ∀ t ∈ row, t ∈ ties) (hnd : row.Nodup) (hlen : row.length ≤ 6) (hwh : ∀ t ∈ row, wh t ∈ whites) (hf : 0 ≤ first ∧ first ≤ 1000) (g : GoodB i s) (gc : GoodC s)
    (h : FireS s row wh first (tops s row wh).reverse σ) : X p w K (n + 2) (callEnvC fFire L 189) σ fireTurn (FireS (burnStep row s) row wh first (tops (burnStep row s) row wh).reverse) R := by
  have htl := tops_len (s := s) (row := row) (wh := wh)
  have hz6 : ∀ {m : Nat}, m ≤ 1000 → m ≤ sizeLine := fun h => Nat.le_trans h (by decide)
  refine Stp.newL (ds := []) EvLs.nil (.inl rfl) (by decide) (by decide) rfl fun aa => ?_
  refine X.assign (d := .str "") .str (.inl rfl) (by decide) rfl ?_
  have pz : ∀ {ps : List (Str × Str)}, (∀ q ∈ ps, q ∈ tops s row wh) → ps.length ≤ 20 → PzOk first ps := fun h1 h2 => pz_of hf h2 fun q hq => by
    have := tops_mem hrow hwh (h1 q hq)
    exact ⟨this.2, (line_ok _ this.1).2.2.1⟩
  -- what follows the search
  have after : ∀ (b : Bool) (σ' : Store) (j : Nat) (pl : List (Str × Str)) (fd : Str), ScanS s row wh first j pl fd σ' →
      ((fd = "" ∧ j = row.length + 1 ∧ pl = []) ∨ (∃ (hj : j < (tops s row wh).length), idleB s ((tops s row wh)[j]).2 = false ∧ fd = ((tops s row wh)[j]).2 ∧ pl = ((tops s row wh).drop (j + 1)).reverse)) →
      X p w K (n + 2) (callEnvC fFire L 189) σ' (fireTurn.drop 3) (FireS (burnStep row s) row wh first (tops (burnStep row s) row wh).reverse) R := by
    intro b σ' j pl fd hS hm
    obtain ⟨hF, ⟨aa, hA⟩, hfd, hid, hle⟩ := hS
    rcases hm with ⟨rfl, rfl, rfl⟩ | ⟨hj, h1, rfl, rfl⟩
    · have htk : (tops s row wh).take (row.length + 1) = tops s row wh := List.take_of_length_le (by rw [htl]; exact Nat.le_refl _)
      have hnone : row.filter (readyB s) = [] := by
        rw [List.filter_eq_nil_iff]
        intro t ht hr
        have hm : (("\n" : Str), lineNow s wh t) ∈ tops s row wh := List.mem_append_left _ (List.mem_map.mpr ⟨t, ht, rfl⟩)
        have := hid _ (htk.symm ▸ hm)
        rw [idle_ready (hrow t ht) (hwh t ht), hr] at this
        cases this
      have hst : burnStep row s = s := by unfold burnStep; rw [hnone]
      rw [hst]
      refine X.iteF (EvB.to (b := ((("" : Str) != ""))) (by decide) (EvB.cmp (Ev.v (Ev.name hfd)) (Ev.v .str) .neS rfl)) ?_
      have hb := fire_back (p := p) (w := w) (K := K) (n := n + 2) (kp := kp) (L := L) (R := R) hf (base := []) (as := (tops s row wh).take (row.length + 1)) (by rw [htk, htl]; simp; omega) hF hA
      rw [htk, List.nil_append] at hb
      exact hb
    · have hq := tops_mem hrow hwh (List.getElem_mem hj)
      obtain ⟨_, _, _, ok3, _⟩ := line_ok _ hq.1
      have hjr : j < row.length := by
        rcases Nat.lt_or_ge j row.length with q | q
        · exact q
        · have hb : (tops s row wh)[j] = bot := by
            simp only [tops]
            rw [List.getElem_append_right (by rw [List.length_map]; exact q)]
            simp
          rw [hb, idleB, bot_idle] at h1
          simp at h1
      have htj := tops_at (s := s) (wh := wh) hjr
      have hget : row[j]? = some row[j] := List.getElem?_eq_getElem hjr
      have ht : row[j] ∈ row := List.getElem_mem hjr
      rw [htj] at h1 hfd ok3
      generalize row[j] = t at htj hget ht h1 hfd ok3
      have hr : readyB s t = true := by
        have := idle_ready (s := s) (wh := wh) (hrow t ht) (hwh t ht)
        rw [h1] at this
        simpa using this.symm
      have hna : t ∉ s.asked := by
        unfold readyB at hr
        simp only [Bool.and_eq_true, Bool.not_eq_true', decide_eq_false_iff_not] at hr
        exact hr.1
      have hln : lineNow s wh t = t ++ wh t := by unfold lineNow; rw [if_neg hna]
      have hfil : ∃ r, row.filter (readyB s) = t :: r := by
        have e1 := List.take_append_drop j row
        have e2 : row.drop j = t :: row.drop (j + 1) := by
          rw [List.drop_eq_getElem_cons hjr]
          rw [List.getElem?_eq_getElem hjr] at hget
          rw [Option.some.inj hget]
        have e3 : (row.take j).filter (readyB s) = [] := by
          rw [List.filter_eq_nil_iff]
          intro z hz hrz
          have hzr : z ∈ row := List.take_subset _ _ hz
          have hm : (("\n" : Str), lineNow s wh z) ∈ (tops s row wh).take j := by
            rw [tops, List.take_append_of_le_length (by rw [List.length_map]; omega), ← List.map_take]
            exact List.mem_map.mpr ⟨z, hz, rfl⟩
          have := hid _ hm
          rw [idle_ready (hrow z hzr) (hwh z hzr), hrz] at this
          cases this
        exact ⟨(row.drop (j + 1)).filter (readyB s), by conv => lhs; rw [← e1, List.filter_append, e3, e2, List.filter_cons, if_pos hr, List.nil_append]⟩
      obtain ⟨r, hfil⟩ := hfil
      have hst : burnStep row s = askB s t := by unfold burnStep; rw [hfil]
      have hasked : (askB s t).asked = s.asked ++ [t] := by unfold askB; split <;> rfl
      rw [hst]
      have hfd' : σ'.lookup ("found" : Str) = some (.val (.str (t ++ wh t))) := by rw [hfd, hln]
      refine X.ite (b := (lineNow s wh t != "")) (N' := fun U => FireS (askB s t) row wh first (((tops s row wh).drop (j + 1)).reverse ++ [(("\n" : Str), "# " ++ t)]) U ∧ U.lookup ("aside" : Str) = some (.lst aa (pilD ((tops s row wh).take j)))) (EvB.cmp (Ev.v (Ev.name hfd)) (Ev.v .str) .neS rfl) (fun _ => ?_) (fun hb => ?_) ?_
      · refine fire_ask kp kr hrow hwh g gc ht hr (base := ((tops s row wh).drop (j + 1)).reverse) (by rw [List.length_reverse, List.length_drop]; omega) hF hfd' rfl fun σ'' hk h2 => ⟨h2, ?_⟩
        rw [hk _ (by decide)]; exact hA
      · simp only [bne, ok3] at hb
        cases hb
      · rintro U ⟨h2, hA2⟩
        have hb := fire_back (p := p) (w := w) (K := K) (n := n + 2) (kp := kp) (L := L) (R := R) hf (as := (tops s row wh).take j) (by rw [List.length_append, List.length_reverse, List.length_drop, List.length_take]; simp; omega) h2 hA2
        have e : ((tops s row wh).drop (j + 1)).reverse ++ [(("\n" : Str), "# " ++ t)] ++ ((tops s row wh).take j).reverse = (tops (askB s t) row wh).reverse := by
          rw [tops_ask hnd hget hasked]; simp
        rw [e] at hb
        exact hb
  refine X.while2 (fun m σ' => ∃ j pl fd, ScanS s row wh first j pl fd σ' ∧ ((fd = "" ∧ m = (tops s row wh).length - j + 1 ∧ pl = ((tops s row wh).drop j).reverse) ∨
    (m = 0 ∧ ∃ (hj : j < (tops s row wh).length), idleB s ((tops s row wh)[j]).2 = false ∧ fd = ((tops s row wh)[j]).2 ∧ pl = ((tops s row wh).drop (j + 1)).reverse))) ((tops s row wh).length + 1)
    ⟨0, _, "", ⟨(h.put (by decide)).put (by decide), ⟨aa, lkN lkE⟩, lkE, by simp, Nat.zero_le _⟩, .inl ⟨rfl, by simp, by simp⟩⟩ ?_
  rintro m σ' ⟨j, pl, fd, hS, hm⟩
  obtain ⟨hF, ⟨aa, hA⟩, hfd, hid, hle⟩ := hS
  obtain ⟨pa, px, hpl⟩ := hF.pile
  rcases hm with ⟨rfl, rfl, rfl⟩ | ⟨rfl, hj, h1, rfl, rfl⟩
  · have hpz : PzOk first ((tops s row wh).drop j).reverse := pz (fun q hq => List.drop_subset _ _ (List.mem_reverse.mp hq)) (by rw [List.length_reverse, List.length_drop]; omega)
    refine ⟨true && (decide (0 < ((((tops s row wh).drop j).reverse.length : Nat) : Int)) && true), EvB.ops (EvBs.andC (EvB.cmp (Ev.v (Ev.name hfd)) (Ev.v .str) .eqS rfl) fun _ => EvBs.andC (EvB.cmp (Ev.v (Ev.pilPart kp hpl hpz)) (Ev.v .int) .gtI rfl) fun _ => EvBs.andN), fun hb => ?_, fun hb => ?_⟩
    · have hj : j < (tops s row wh).length := by
        simp only [Bool.true_and, Bool.and_true, decide_eq_true_eq, List.length_reverse, List.length_drop] at hb
        omega
      rw [tops_split hj] at hpl
      have hq := tops_mem hrow hwh (List.getElem_mem hj)
      obtain ⟨ok0, ok1, ok2, ok3, ok4⟩ := line_ok _ hq.1
      have htk : (tops s row wh).take (j + 1) = (tops s row wh).take j ++ [(tops s row wh)[j]] := by rw [List.take_add_one, List.getElem?_eq_getElem hj]; rfl
      generalize hqq : (tops s row wh)[j] = q at hpl hq ok0 ok1 ok2 ok3 ok4 htk
      refine X.popTup (q := q) kp hpl (by rw [List.length_reverse, List.length_drop]; omega) (Asg.two (.inl rfl) (by decide) (.inl rfl) (by decide)) rfl rfl rfl rfl rfl ?_
      have hF1 : FireS s row wh first ((tops s row wh).drop (j + 1)).reverse (put (put (put σ' "pile" (.pil pa px first (pilD ((tops s row wh).drop (j + 1)).reverse))) "lead" (.val (.str q.1))) "line" (.val (.str q.2))) := (hF.putPile.put (by decide)).put (by decide)
      have a1 : (put (put (put σ' "pile" (.pil pa px first (pilD ((tops s row wh).drop (j + 1)).reverse))) "lead" (.val (.str q.1))) "line" (.val (.str q.2))).lookup ("aside" : Str) = some (.lst aa (pilD ((tops s row wh).take j))) := lkN (lkN (lkN hA))
      have f1 : (put (put (put σ' "pile" (.pil pa px first (pilD ((tops s row wh).drop (j + 1)).reverse))) "lead" (.val (.str q.1))) "line" (.val (.str q.2))).lookup ("found" : Str) = some (.val (.str "")) := lkN (lkN (lkN hfd))
      have e1 : (put (put (put σ' "pile" (.pil pa px first (pilD ((tops s row wh).drop (j + 1)).reverse))) "lead" (.val (.str q.1))) "line" (.val (.str q.2))).lookup ("lead" : Str) = some (.val (.str q.1)) := lkN lkE
      have n1 : (put (put (put σ' "pile" (.pil pa px first (pilD ((tops s row wh).drop (j + 1)).reverse))) "lead" (.val (.str q.1))) "line" (.val (.str q.2))).lookup ("line" : Str) = some (.val (.str q.2)) := lkE
      generalize put (put (put σ' "pile" (.pil pa px first (pilD ((tops s row wh).drop (j + 1)).reverse))) "lead" (.val (.str q.1))) "line" (.val (.str q.2)) = S1 at hF1 a1 f1 e1 n1 ⊢
      obtain ⟨ba, hba⟩ := hF1.burns
      refine X.ite (b := (sg q.2 0 == "#") || ((inW s (sg q.2 0) == inW s (sg q.2 1)) || false)) (N' := fun σ'' => ∃ k' < (tops s row wh).length - j + 1, ∃ j pl fd, ScanS s row wh first j pl fd σ'' ∧ ((fd = "" ∧ k' = (tops s row wh).length - j + 1 ∧ pl = ((tops s row wh).drop j).reverse) ∨
          (k' = 0 ∧ ∃ (hj : j < (tops s row wh).length), idleB s ((tops s row wh)[j]).2 = false ∧ fd = ((tops s row wh)[j]).2 ∧ pl = ((tops s row wh).drop (j + 1)).reverse))) ?_ (fun hb => ?_) (fun hb => ?_) fun σ'' h => X.nil h
      · refine EvB.ops (EvBs.orC (EvB.cmp (Ev.v (Ev.lsign0 hq.1 (Ev.name n1) .int fun _ _ => rfl)) (Ev.v .str) .eqS rfl) fun h0 => ?_)
        have h4 := ok4.resolve_left (by simpa using h0)
        exact EvBs.orC (EvB.cmp (Ev.v (Ev.sub (EvV.name hba rfl) (Ev.v (Ev.lsign0 hq.1 (Ev.name n1) .int fun _ _ => rfl)) (IdxOk.dict (inW_burn h4.1)) fun _ _ => rfl)) (Ev.v (Ev.sub (EvV.name hba rfl) (Ev.v (Ev.lsign1 hq.1 (Ev.name n1) .int fun _ _ => rfl)) (IdxOk.dict (inW_burn h4.2)) fun _ _ => rfl)) .isB rfl) fun _ => EvBs.orN
      · refine X.step (Stp.append (d := .tup [.str q.1, .str q.2]) a1 (Ev.tup (.cons (Ev.name e1) (EvLs.one (Ev.name n1))) (show (2 : Nat) ≤ sizeLine by decide)) (by rw [pilD, List.length_map, List.length_take]; exact hz6 (by omega)))
          (X.nil ⟨(tops s row wh).length - (j + 1) + 1, by omega, j + 1, _, "", ⟨hF1.put (by decide), ⟨aa, ?_⟩, lkN f1, ?_, hj⟩, .inl ⟨rfl, rfl, rfl⟩⟩)
        · rw [lkE, htk]; simp [pilD]
        · intro z hz
          rw [htk] at hz
          rcases List.mem_append.mp hz with hz | hz
          · exact hid z hz
          · rw [List.mem_singleton.mp hz, idleB]; rw [Bool.or_false] at hb; exact hb
      · refine X.assign (d := .str q.2) (Ev.name n1) (.inl rfl) (by decide) rfl (X.nil ⟨0, by omega, j, _, q.2, ⟨hF1.put (by decide), ⟨aa, lkN a1⟩, lkE, hid, hle⟩, .inr ⟨rfl, hj, ?_, ?_, rfl⟩⟩)
        · rw [hqq, idleB]; rw [Bool.or_false] at hb; exact hb
        · rw [hqq]
    · refine after false σ' j _ "" ⟨hF, ⟨aa, hA⟩, hfd, hid, hle⟩ (.inl ⟨rfl, ?_, ?_⟩)
      · simp only [Bool.true_and, Bool.and_true, decide_eq_false_iff_not, List.length_reverse, List.length_drop] at hb
        omega
      · simp only [Bool.true_and, Bool.and_true, decide_eq_false_iff_not, List.length_reverse, List.length_drop] at hb
        rw [List.drop_eq_nil_of_le (by omega)]; rfl
  · have hq := tops_mem hrow hwh (List.getElem_mem hj)
    obtain ⟨_, _, _, ok3, _⟩ := line_ok _ hq.1
    refine ⟨(((tops s row wh)[j]).2 == "") && true, EvB.ops (EvBs.andC (EvB.cmp (Ev.v (Ev.name hfd)) (Ev.v .str) .eqS rfl) fun h => ?_), fun hb => ?_, fun hb => ?_⟩
    · rw [ok3] at h; cases h
    · rw [ok3] at hb; cases hb
    · exact after false σ' j _ _ ⟨hF, ⟨aa, hA⟩, hfd, hid, hle⟩ (.inr ⟨hj, h1, rfl, rfl⟩)
end
end Mine
end
section
open PySem PySem.Spec PySem.Calls PyProof.Rows PySem.W
namespace Mine
variable {p : Program} {w : World} {K : Frag} {n : Nat} {env : Env} {σ : Store} {N N' : Store → Prop} {R : D → Prop} {rest : List Stmt}
theorem cmt_bot : cmt "" ++ "\n" ++ cmt " \t" ++ "\n" = bot.1 ∧ cmt (cmt " \t. .\n. ") = bot.2 ∧ (Txt.rstrip " \t").length ≤ 10 ∧ (Txt.rstrip " \t. .\n. ").length ≤ 20 ∧ (Txt.rstrip (cmt " \t. .\n. ")).length ≤ 20 ∧ (cmt " \t. .\n. ").length ≤ 20 ∧ (cmt "").length = 1 ∧ (cmt " \t").length = 1 ∧ (Txt.rstrip "").length ≤ 10 := by decide +kernel
theorem hostL0 (b c d : Int) : hostL (burn0 b c d) = ([("a", "a.local"), ("b", "b"), ("c", "c"), ("d", "d")] : List (Str × Str)) := by
  have : hostL (burn0 0 0 0) = ([("a", "a.local"), ("b", "b"), ("c", "c"), ("d", "d")] : List (Str × Str)) := by decide +kernel
  exact this
theorem host0_ip : ∀ k ∈ (hostL (burn0 0 0 0)), ipOut (Txt.lower k.2) = some false ∧ udmL (Txt.lower k.2) (Txt.lower ".LOCAL") false false = inW (burn0 0 0 0) k.1 ∧ (Txt.lower k.2).length ≤ 1000 := by decide +kernel
theorem fire_fn (kp : KP p K) (kr : KR K) (hc : PlainF p w K (.ref 125)) {row : List Str} {wh : Str → Str} {b c d first : Int} (hrow : ∀ t ∈ row, t ∈ ties) (hnd : row.Nodup) (hlen : row.length ≤ 6) (hwh : ∀ t ∈ row, wh t ∈ whites) (hf : 0 ≤ first ∧ first ≤ 1000) :
    Fn p w K (n + 3) 189 [.list (row.map fun t => .str (t ++ wh t)), .dict (patL b c d), .int first]
      (.tup [.dict (toK .str (hostL (burnIt row (burn0 b c d) row.length))), .str (Txt.join "" (glued (tops (burnIt row (burn0 b c d) row.length) row wh).reverse)), .int (first + (lens (tops (burnIt row (burn0 b c d) row.length) row wh).reverse).sum), .int (row.length + 1 : Nat)]) := by
  have hz6 : ∀ {m : Nat}, m ≤ 1000 → m ≤ sizeLine := fun h => Nat.le_trans h (by decide)
  obtain ⟨cb1, cb2, cb3, cb4, cb5, cb6, cb7, cb8, cb9⟩ := cmt_bot
  refine Fn.intro (names := ["lines", "patience", "first"]) (kp.kx.f (fd := fFire) 9) rfl rfl rfl rfl rfl rfl rfl ?_ rfl (by decide) (by decide) (by decide) (by decide) fun L => ?_
  · intro vs h; match vs, h with
    | [a, b, c], _ => rfl
  have cm : ∀ {S : Store} {x : Str} {q1 q2 : Pos} {e : Expr}, Ev p w K (n + 2) (callEnvC fFire L 189) S e (.str x) → x.length ≤ 1000 → (Txt.rstrip x).length ≤ 1000 → (backTo q2 (starEach [e] (callEnvC fFire L 189))).any (·.1) = false → starEach [e] (callEnvC fFire L 189) = (false, eval e (callEnvC fFire L 189)) :: starEach [] (callEnvC fFire L 189) →
      Ev p w K (n + 2) (callEnvC fFire L 189) S (.Call (.Name "_comment_line" q1) [e] [] q2) (.str (cmt x)) := fun he h1 h2 hns hst =>
    Ev.callF (EvG.g kp.kx 0) (kp.kx.f (fd := fComment) 0).keep (EvLs.one he hst) hns ((cmt_fn kp.kx h1 h2 : Fn p w K (n + 2) 45 _ _))
  refine X.newPil (first := first) kp (EvG.g kp.kx 2) hc (Ev.name rfl) (.inl rfl) (by decide) rfl rfl rfl fun pa px => ?_
  refine X.step (Stp.push (ps := []) (sa := bot.1) (sb := bot.2) kp lkE (.cons ?_ (EvLs.one ?_)) (by decide) rfl rfl rfl rfl rfl) ?_
  · rw [← cb1]
    refine Ev.bin (Ev.v (Ev.bin (Ev.v (Ev.bin (Ev.v (cm .str (by decide) (Nat.le_trans cb9 (by decide)) rfl rfl)) (Ev.v .str) (BinOk.addS (a := cmt "") (b := "\n") ?_))) (Ev.v (cm .str (by decide) (Nat.le_trans cb3 (by decide)) rfl rfl)) (BinOk.addS (a := cmt "" ++ "\n") (b := cmt " \t") ?_))) (Ev.v .str) (BinOk.addS (a := cmt "" ++ "\n" ++ cmt " \t") (b := "\n") ?_)
    · rw [cb7]; exact hz6 (show (2 : Nat) ≤ 1000 by decide)
    · rw [str_len_append, cb7, cb8]; exact hz6 (show (3 : Nat) ≤ 1000 by decide)
    · rw [str_len_append, str_len_append, cb7, cb8]; exact hz6 (show (4 : Nat) ≤ 1000 by decide)
  · rw [← cb2]
    exact cm (cm .str (by decide) (Nat.le_trans cb4 (by decide)) rfl rfl) (Nat.le_trans cb6 (by decide)) (Nat.le_trans cb5 (by decide)) rfl rfl
  generalize hl : row.map (fun t => t ++ wh t) = ls
  have hls : row.map (fun t => D.str (t ++ wh t)) = ls.map .str := by rw [← hl, List.map_map]; rfl
  have hll : ls.length = row.length := by rw [← hl, List.length_map]
  refine X.for (tp := false) (ds := (ls.map D.str).reverse) (f := fun d σ => put σ "line" (.val d)) (fun i σ' => (∃ a dx, σ'.lookup ("pile" : Str) = some (.pil a dx first (pilD (bot :: (ls.reverse.take i).map fun x => (("\n" : Str), x))))) ∧ σ'.lookup ("lines" : Str) = some (.val (.list (row.map fun t => .str (t ++ wh t)))) ∧ σ'.lookup ("patience" : Str) = some (.val (.dict (patL b c d))))
    (EvW.list (Ev.rev (EvV.name (e := .val (.list (ls.map .str))) (by rw [← hls]; exact lkN (lkN rfl)) rfl) (Ev.neg .int) (by rw [List.length_map]; exact hz6 (by omega)))) (cnOk (by decide)) (fun d _ => Asg.name (.inl rfl) (by decide)) .name ⟨⟨pa, px, by simpa using lkE⟩, lkN (lkN rfl), lkN (lkN rfl)⟩ ?_ ?_
  · rintro i dd σ' hd ⟨⟨pa, px, h1⟩, h2, h3⟩
    rw [← List.map_reverse, List.getElem?_map] at hd
    cases hx : ls.reverse[i]? with
    | none => rw [hx] at hd; cases hd
    | some x =>
    rw [hx] at hd
    obtain rfl : dd = .str x := (Option.some.inj hd).symm
    have htk : ls.reverse.take (i + 1) = ls.reverse.take i ++ [x] := by rw [List.take_add_one, hx]; rfl
    refine X.step (Stp.push (sa := "\n") (sb := x) kp (lkN h1) (.cons .str (EvLs.one (Ev.name lkE))) ?_ rfl rfl rfl rfl rfl) (X.nil ⟨⟨pa, px, ?_⟩, lkN (lkN h2), lkN (lkN h3)⟩)
    · rw [List.length_cons, List.length_map, List.length_take, List.length_reverse]; omega
    · rw [lkE, htk]; simp
  rintro σ' ⟨⟨pa, px, h1⟩, h2, h3⟩
  have hps : bot :: ((ls.reverse.take (ls.map D.str).reverse.length).map fun x => (("\n" : Str), x)) = (tops (burn0 b c d) row wh).reverse := by
    have e1 : (ls.map D.str).reverse.length = ls.reverse.length := by simp
    rw [e1, List.take_length, tops, List.reverse_append, List.map_reverse, ← hl, List.map_map]
    rfl
  rw [hps] at h1
  refine X.newK (kds := toK .str (hostL (burn0 b c d))) ?_ (.inl rfl) (by decide) rfl rfl (by decide) (by decide) ?_ rfl fun ha => ?_
  · rw [hostL0]
    exact .cons .str .str (.cons .str .str (.cons .str .str (.cons .str .str .nil)))
  · rw [hostL0]; decide
  refine X.newK0 (.inl rfl) (by decide) rfl fun ba => ?_
  refine X.forSet (a := ha) (c := ba) (ks := toK .str (hostL (burn0 b c d))) (g := fun k => .bool (inW (burn0 b c d) k)) (lkN lkE) lkE (by decide) (by decide) (by decide) (.inl rfl) (by decide) (cnOk (by decide)) (by rw [toK_len, hostL0]; decide) ?_ rfl ?_
  · intro k hk σ2 hx2 ht2
    have hk4 : k ∈ pts4 := by
      rw [hostL0] at hk; exact hk
    have hm : (k, hostOf (burn0 b c d) k) ∈ hostL (burn0 0 0 0) := List.mem_map.mpr ⟨k, hk4, rfl⟩
    obtain ⟨i1, i2, i3⟩ := host0_ip _ hm
    exact Ev.to (by rw [i2]; rfl) (Ev.callF (EvG.g kp.kx 5) (kp.kx.f (fd := fMatch) 2).keep (.cons (Ev.sub (EvV.name hx2 rfl) (Ev.v (Ev.name ht2)) (IdxOk.dict (host_get hk4)) fun _ _ => rfl) (EvLs.one .str)) rfl (udm_fn kp.kx kr (n := n) (ia := false) i1 local_ip.1 i3 local_ip.2))
  rintro σ2 hx2 hy2 hz2
  have hbl : (toK D.str (hostL (burn0 b c d))).map (fun k => (k.1, D.bool (inW (burn0 b c d) k.1))) = toK .bool (burnL (burn0 b c d)) := rfl
  rw [hbl] at hy2
  have p2 : σ2.lookup ("pile" : Str) = some (.pil pa px first (pilD (tops (burn0 b c d) row wh).reverse)) := by rw [hz2 _ (by decide) (by decide) (by decide)]; exact lkN (lkN h1)
  have q2 : σ2.lookup ("lines" : Str) = some (.val (.list (row.map fun t => .str (t ++ wh t)))) := by rw [hz2 _ (by decide) (by decide) (by decide)]; exact lkN (lkN h2)
  have r2 : σ2.lookup ("patience" : Str) = some (.val (.dict (patL b c d))) := by rw [hz2 _ (by decide) (by decide) (by decide)]; exact lkN (lkN h3)
  refine X.copyK (ks := patL b c d) (EvG.b kp.kx 7) (Ev.v (Ev.name r2)) (.inl rfl) (by decide) (show (3 : Nat) ≤ sizeLine by decide) rfl rfl rfl fun al => ?_
  refine X.for (tp := false) (ds := row.map fun t => .str (t ++ wh t)) (f := fun d σ => put σ "turn" (.val d)) (fun i σ' => FireS (burnIt row (burn0 b c d) i) row wh first (tops (burnIt row (burn0 b c d) i) row wh).reverse σ')
    (EvW.list (Ev.name (lkN q2))) (cnOk (by decide)) (fun d _ => Asg.name (.inl rfl) (by decide)) .name ⟨⟨pa, px, lkN p2⟩, ⟨ha, lkN hx2⟩, ⟨ba, lkN hy2⟩, ⟨al, lkE⟩, lkN q2⟩ ?_ ?_
  · intro i dd σ3 hd hI
    exact fire_turn kp kr hrow hnd hlen hwh hf (GoodB.it hrow i) (GoodC.it hrow i) (hI.put (by decide))
  · intro σ3 hI
    rw [List.length_map] at hI
    obtain ⟨⟨pa, px, e1⟩, ⟨ha, e2⟩, _, _, _⟩ := hI
    generalize burnIt row (burn0 b c d) row.length = s at e1 e2 ⊢
    refine X.kd fun hkd => X.freeze e2 rfl hkd ?_
    have htl := tops_len (s := s) (row := row) (wh := wh)
    have pz : PzOk first (tops s row wh).reverse := pz_of hf (by rw [List.length_reverse, htl]; omega) fun q hq => by
      have := tops_mem hrow hwh (List.mem_reverse.mp hq)
      exact ⟨this.2, (line_ok _ this.1).2.2.1⟩
    have hpl := Ev.pilPart (p := p) (w := w) (n := n + 2) (env := callEnvC fFire L 189) (σ := put σ3 "hosts" (.val (.dict (toK D.str (hostL s))))) (a := pa) (dx := px) (p2 := ⟨152, 41, 152, 45⟩) (apos := ⟨152, 41, 152, 56⟩) (pos := ⟨152, 41, 152, 58⟩) kp (lkN e1) pz
    rw [List.length_reverse, htl] at hpl
    exact X.ret (Ev.tup (.cons (Ev.name lkE) (.cons (Ev.pilStr kp (EvG.b kp.kx 0) (lkN e1) pz) (.cons (Ev.pilLen kp (EvG.b kp.kx 1) (lkN e1) pz) (EvLs.one hpl)))) (show (4 : Nat) ≤ sizeLine by decide)) rfl
end Mine
end
section
open PySem PySem.Spec PySem.Calls PyProof.Rows PySem.W
namespace Mine
variable {p : Program} {w : World} {K : Frag} {n : Nat} {env : Env} {σ : Store} {N N' : Store → Prop} {R : D → Prop} {rest : List Stmt}
/-- l + r, of lists -/
theorem BinOk.addL {ds es : List D} (hz : ds.length + es.length ≤ sizeLine) : BinOk p w K n .Add (.list ds) (.list es) (.list (ds ++ es)) := by
  rintro O A s _ _ Q E ok st ⟨a, o, vs, rfl, ho, hl, r⟩ ⟨b, o', us, rfl, ho', hl', r'⟩ hQ
  obtain ⟨n1, rfl⟩ := hl
  obtain ⟨n2, rfl⟩ := hl'
  have e1 := r.length
  have e2 := r'.length
  have e : vs.toArray ++ us.toArray = (vs ++ us).toArray := by simp
  refine concat_meets ⟨_, ho, rfl⟩ ⟨_, ho', rfl⟩ noFill_list_add seq_list_add PySem.F.slot_list_add PySem.F.entry_list_add (PySem.F.args_list_add_2 _ _) (list_addW a b vs.toArray us.toArray n1 n2 none none #[] #[] (by simp only [List.size_toArray]; omega)) ⟨ho, ho', ?_⟩
  rw [e]
  exact hQ _ _ StO.allocSh (st.list (r.append r'))
/-- pairs of texts that differ -/
theorem CmpOk.neT2 {a b c d : Str} : CmpOk p w K n .NotEq (.tup [.str a, .str b]) (.tup [.str c, .str d]) (!((a == c) && (b == d))) := by
  rintro O A s _ _ Q E ok st ⟨x, o, vs, rfl, ho, hl, r⟩ ⟨y, o', us, rfl, ho', hl', r'⟩ hQ
  simp only [RdL, Rd] at r r'
  obtain ⟨_, _, rfl, ⟨t1, rfl⟩, _, _, rfl, ⟨t2, rfl⟩, rfl⟩ := r
  obtain ⟨_, _, rfl, ⟨u1, rfl⟩, _, _, rfl, ⟨u2, rfl⟩, rfl⟩ := r'
  have h := SeqAt.RcNeAt.tuples (A := A) (e := fun j => if j = 0 then a.cps.toList == c.cps.toList else b.cps.toList == d.cps.toList) (hl.isTuple (exc_get ho).2) (hl'.isTuple (exc_get ho').2) ok.cline (fun j h1 h2 => by
    match j, h1, h2 with
    | 0, _, _ => exact (SeqRoads2.EqGives.str a c t1 u1).at A.in1 s
    | 1, _, _ => exact (SeqRoads2.EqGives.str b d t2 u2).at A.in1 s)
  refine h p w E Q ?_
  have e : (!((List.range (min (#[Value.str a t1, Value.str b t2] : Array Value).size (#[Value.str c u1, Value.str d u2] : Array Value).size)).all (fun j => if j = 0 then a.cps.toList == c.cps.toList else b.cps.toList == d.cps.toList) && (#[Value.str a t1, Value.str b t2] : Array Value).size == (#[Value.str c u1, Value.str d u2] : Array Value).size)) = !((a == c) && (b == d)) := by
    have h1 : (a.cps.toList == c.cps.toList) = (a == c) := by rw [toList_beq]
    have h2 : (b.cps.toList == d.cps.toList) = (b == d) := by rw [toList_beq]
    show (!((List.range 2).all _ && true)) = _
    simp [List.range_succ, h1, h2]
  have e' : (List.toArray [Value.str a t1, Value.str b t2]) = #[Value.str a t1, Value.str b t2] := rfl
  exact e ▸ hQ s (.refl s)
end Mine
end
section
open PySem PySem.Spec PySem.Calls PyProof.Rows PySem.W
namespace Mine
variable {p : Program} {w : World} {K : Frag} {n : Nat} {env : Env} {σ : Store} {N N' : Store → Prop} {R : D → Prop} {rest : List Stmt}
/-- x, y, z, v = e -/
theorem Asg.four {x1 x2 x3 x4 : Str} {p1 p2 p3 p4 pos : Pos} {k : Nat} {a1 a2 a3 a4 : D} (hk1 : env.kindOf x1 = some .local ∨ env.kindOf x1 = some .cell) (ho1 : okName x1 = true) (hk2 : env.kindOf x2 = some .local ∨ env.kindOf x2 = some .cell) (ho2 : okName x2 = true)
    (hk3 : env.kindOf x3 = some .local ∨ env.kindOf x3 = some .cell) (ho3 : okName x3 = true) (hk4 : env.kindOf x4 = some .local ∨ env.kindOf x4 = some .cell) (ho4 : okName x4 = true) :
    Asg p w K env (.Tuple [.Name x1 p1, .Name x2 p2, .Name x3 p3, .Name x4 p4] k pos) (.tup [a1, a2, a3, a4]) (fun σ => put (put (put (put σ x1 (.val a1)) x2 (.val a2)) x3 (.val a3)) x4 (.val a4)) := fun B O₀ A s σ v Q E hh st r hQ => by
  simp only [Rd, RdL] at r
  obtain ⟨t, o, vs, rfl, ho, hT, u1, _, rfl, r1, u2, _, rfl, r2, u3, _, rfl, r3, u4, _, rfl, r4, rfl⟩ := r
  obtain ⟨g1, g2⟩ := exc_get ho
  refine wpAny_assign_Tuple hh (hT.isTuple g2) rfl rfl fun h₁ he₁ => ?_
  have y1 : Sh s { s with heap := h₁ } := .mkh (Kp.fresh he₁)
  have st1 := st.sh y1
  show wpAny _ _ (assignInOrder [assign (.Name x1 p1) env, assign (.Name x2 p2) env, assign (.Name x3 p3) env, assign (.Name x4 p4) env] [u1, u2, u3, u4]) _ _ _
  refine assignInOrder_cons (wpAny_assign_Name (st1.storeV hk1 ho1 (st.e.toStO.rd y1 r1) fun s2 st2 sb2 _ => ?_))
  refine assignInOrder_cons (wpAny_assign_Name (st2.storeV hk2 ho2 (Rd.mono sb2 a2 (st.e.toStO.rd y1 r2)) fun s3 st3 sb3 _ => ?_))
  refine assignInOrder_cons (wpAny_assign_Name (st3.storeV hk3 ho3 (Rd.mono sb3 a3 (Rd.mono sb2 a3 (st.e.toStO.rd y1 r3))) fun s4 st4 sb4 _ => ?_))
  exact assignInOrder_cons (wpAny_assign_Name (st4.storeV hk4 ho4 (Rd.mono sb4 a4 (Rd.mono sb3 a4 (Rd.mono sb2 a4 (st.e.toStO.rd y1 r4)))) fun s5 st5 _ _ => assignInOrder_nil (hQ s5 st5)))
/-- sep.join(x), of a text's signs -/
theorem sgs_rows (x : Str) : PyProof.Rows.signs x = sgs x := rfl
theorem MethV.joinS {sep x : Str} (hs : sep.length ≤ 16) (hz : x.length ≤ 1000) : MethV p w K n "str.join" (.str sep) [.str x] (.str (Txt.join sep (sgs x))) := by
  rintro O A s _ vs Q E ok st ⟨t, rfl⟩ r hQ
  simp only [RdL, Rd] at r
  obtain ⟨_, _, rfl, ⟨u, rfl⟩, rfl⟩ := r
  refine SC.joinStr ok.hand ?_ fun h' k t' hk => hQ _ _ (.mk' (.of hk)) ⟨_, rfl⟩
  refine joinOk_of_weight ?_ hs
  have h1 := sumLen_of_ones (PyProof.Rows.signs x) (sign_length_one x)
  have h2 : (PyProof.Rows.signs x).length = x.length := by rw [sgs_rows, sgs, List.length_map]; simp [Str.length]
  rw [h1, h2]; omega
namespace F
theorem slot_lstripB : Slot "bytes" "lstrip" "bytes.lstrip" :=
  .of (owner := "bytes") (n := "lstrip") (by rw [typeLookup_type, builtinLookup_eq_fast]; kernel_rfl) (by decide +kernel) (by decide +kernel) (by decide +kernel)
    (by first | exact .inl (by decide +kernel) | exact .inr (by decide +kernel)) (by rw [isSubtype_type]; kernel_rfl)
theorem type_lstripB : typeOf (.builtin "bytes.lstrip") = pure (.type "method_descriptor") := by show builtinType _ = _; rw [builtinType_eq_fast]; kernel_rfl
theorem entry_lstripB : entryFor table "bytes.lstrip" = some Builtin.«bytes.lstrip» := entryFor_of_tree (by kernel_rfl)
theorem args_lstripB (a b : Value) : argsOk "bytes.lstrip" ⟨[a, b], []⟩ := by
  unfold argsOk; kernel_rfl
end F
theorem MethV.lstripB {x y : Array UInt8} (hz : x.size ≤ 1000) : MethV p w K n "bytes.lstrip" (.bytes x) [.bytes y] (.bytes (x.toList.dropWhile y.contains).toArray) := by
  rintro O A s _ vs Q E ok st ⟨t, rfl⟩ r hQ
  simp only [RdL, Rd] at r
  obtain ⟨_, _, rfl, ⟨u, rfl⟩, rfl⟩ := r
  refine wpAny_call_entry F.slot_lstripB (typeIs_bytes s x t) F.entry_lstripB ?_ (F.args_lstripB _ _)
  unfold Builtin.«bytes.lstrip» Builtin.Bytes.stripM
  refine wpAny_bind (m := selfAndSome _ "lstrip" 0 1 ⟨[.bytes x t, .bytes y u], []⟩) (wpAny_pure ?_)
  refine wpAny_bind (m := Builtin.Bytes.bytesLike _ (.bytes y u)) ?_
  unfold Builtin.Bytes.bytesLike
  refine wpAny_bind (wpAny_of_eq KBy.buffer_eq (wpAny_pure ?_))
  refine wpAny_bind (wpAny_pure ?_)
  refine wpAny_bind (m := Builtin.Bytes.payload (.bytes x t)) (wpAny_bind (wpAny_pure (wpAny_pure ?_)))
  have hl : (x.toList.dropWhile y.contains).length ≤ x.toList.length := (List.dropWhile_sublist _).length_le
  dsimp only
  simp only [if_true, Bool.false_eq_true, if_false]
  by_cases c : ((List.dropWhile y.contains x.toList).length == x.size) = true
  · rw [if_pos c]
    have e : (x.toList.dropWhile y.contains).toArray = x := by
      apply Array.toList_inj.mp
      have h2 : (x.toList.dropWhile y.contains).length = x.toList.length := by simpa using c
      exact List.Sublist.eq_of_length (List.dropWhile_sublist _) h2
    refine wpAny_bind (wpAny_rule (wpAny_bind (m := Builtin.Bytes.Kind.same .bytes (.bytes x t)) (wpAny_bind (wpAny_typeOf (typeIs_bytes s x t) ?_))))
    refine wpAny_pure (wpAny_pure ⟨_, rfl, hQ _ _ (.refl s) ⟨t, ?_⟩⟩)
    rw [e]
  · rw [if_neg c]
    refine wpAny_bind (m := mkBytes (List.dropWhile y.contains x.toList).toArray) ?_
    unfold mkBytes
    rw [if_neg (by rw [List.size_toArray]; simp only [sizeLine]; simp only [Array.length_toList] at hl; omega)]
    refine wpAny_bind (wpAny_fresh (wpAny_pure (wpAny_pure ⟨_, rfl, hQ _ _ (.tok s _) ⟨_, rfl⟩⟩)))
end Mine
end
section
open PySem PySem.Spec PySem.Calls PyProof.Rows PySem.W
namespace Mine
variable {p : Program} {w : World} {K : Frag} {n : Nat} {env : Env} {σ : Store} {N N' : Store → Prop} {R : D → Prop} {rest : List Stmt}
theorem StE.hi {O : List Addr} {s : Shared} (st : StE p w K O env σ s) : lowN ≤ s.heap.objs.size := st.toStO.hi
/-- _Accumulator() -/
theorem mkPil0 {O : List Addr} {A : Around} {s : Shared} {E : Value → Shared → Prop} {fp cp : Pos} {Q : Value → Shared → Prop} (kp : KP p K) (hg : EvG p w K env (.Name "_Accumulator" fp) (.ref 125)) (hc : PlainF p w K (.ref 125)) (ok : Ok n A) (st : StE p w K O env σ s)
    (hns : (backTo cp (starEach [] env)).any (·.1) = false) (hQ : ∀ h' tk x dx od e', s.heap.objs.size ≤ x → s.heap.objs.size ≤ dx → h'.get? x = some (pilObj dx #[] e') → h'.get? dx = some od → SzObj 0 od → (∀ c o, s.heap.get? c = some o → h'.get? c = some o) → Q (.ref x) { s with heap := h', toks := tk }) :
    wpAny (model p w) A (eval (.Call (.Name "_Accumulator" fp) [] [] cp) env) Q E s := by
  have d1 := ok.depth
  refine evCall st hg hc hns (spliced_none ⟨st.wd.kin, ?_⟩)
  refine wpAny_call (make_call (i := 0) kp.kx kp.kc kp.km st.wd st.hi (by simp only [recursionLimit]; omega) F.argsNew0 (fun a s' k => bind_none kp.km (st.wd.kin.keeps k)) fun h' tk a dx od e' h1 h2 h3 h4 h5 h6 h7 => ?_)
  exact hQ h' tk a dx od e' h1 h2 h4 h5 h6 h7
/-- _Accumulator().pop() -/
theorem Ev.pop0 {fp cp apos pos : Pos} {pl : Sem Bool} (kp : KP p K) (hg : EvG p w K env (.Name "_Accumulator" fp) (.ref 125)) (hc : PlainF p w K (.ref 125)) (hns : (backTo cp (starEach [] env)).any (·.1) = false)
    (hbase : attributeBase (.Call (.Name "_Accumulator" fp) [] [] cp) "pop" env (eval (.Call (.Name "_Accumulator" fp) [] [] cp) env) = eval (.Call (.Name "_Accumulator" fp) [] [] cp) env)
    (he : eval (.Call (.Attribute (.Call (.Name "_Accumulator" fp) [] [] cp) "pop" apos) [] [] pos) env = (do
      let ov ← attributeBase (.Call (.Name "_Accumulator" fp) [] [] cp) "pop" env (eval (.Call (.Name "_Accumulator" fp) [] [] cp) env)
      standAt apos.atName
      let (f, first) ← holding [ov] (getMethod ov "pop" pl)
      callWith pos f first (backTo pos (starEach [] env)) [])) : Ev p w K n env σ (.Call (.Attribute (.Call (.Name "_Accumulator" fp) [] [] cp) "pop" apos) [] [] pos) (.tup [.str "", .str ""]) := fun O A s Q E ok st hQ => by
  have d1 := ok.depth
  refine Mine.methodCall ?_ he
  rw [hbase]
  refine mkPil0 kp hg hc ok st hns fun h' tk x dx od e' h1 h2 h4 h5 h6 h7 => ?_
  have y : Sh s { s with heap := h', toks := tk } := .mk' (.of h7)
  have st₁ := st.sh y
  refine getMeth kp.kc st₁.wd.kin h4 h5 kp.kc.pop (kp.km.typ 85 (by decide)) (by decide) (shadow h6 (by decide)) ?_
  refine callWith_of (P := K.In) rfl (fun h X => keeps_K kp.km.pop.keep h X) (evArgs rfl (spliced_none ⟨st₁.wd.kin, ?_⟩))
  refine wpAny_call (pop_none kp.kx kp.kc kp.km st₁.wd (by simp only [recursionLimit]; omega) h4 h5 h6 (Nat.le_trans st.hi h1) fun h'' tk'' T o t1 t2 hT ho hTup k => ?_)
  refine hQ _ _ (y.trans (.mk' (.of k))) ?_
  simp only [Rd, RdL]
  exact ⟨T, o, _, rfl, exc_of (st₁.toStO.gone hT).2.1 ho, hTup, _, _, rfl, ⟨t1, rfl⟩, _, _, rfl, ⟨t2, rfl⟩, rfl⟩
/-- len(_Accumulator()) -/
theorem Ev.len0 {lp fp cp pos : Pos} (kp : KP p K) (hl : EvG p w K env (.Name "len" lp) (.builtin "len")) (hg : EvG p w K env (.Name "_Accumulator" fp) (.ref 125)) (hc : PlainF p w K (.ref 125)) (hns : (backTo cp (starEach [] env)).any (·.1) = false)
    (hst : starEach [.Call (.Name "_Accumulator" fp) [] [] cp] env = (false, eval (.Call (.Name "_Accumulator" fp) [] [] cp) env) :: starEach [] env) (hns' : (backTo pos (starEach [.Call (.Name "_Accumulator" fp) [] [] cp] env)).any (·.1) = false) :
    Ev p w K n env σ (.Call (.Name "len" lp) [.Call (.Name "_Accumulator" fp) [] [] cp] [] pos) (.int 0) := fun O A s Q E ok st hQ => by
  have d1 := ok.depth
  refine evCall st hl PlainF.bi hns' (spliced_more (mkPil0 kp hg hc ok st hns fun h' tk x dx od e' h1 h2 h4 h5 h6 h7 => spliced_none ?_) hst)
  have y : Sh s { s with heap := h', toks := tk } := .mk' (.of h7)
  have st₁ := st.sh y
  refine ⟨st₁.wd.kin, ?_⟩
  refine lenPil (us := []) (ps := []) kp.kx kp.kc kp.km kp.ki st₁.wd ok.hand (by simp only [recursionLimit]; omega) h4 h5 h6 ⟨rfl, fun j a b h => by simp at h⟩ (fun q hq => by cases hq) (by simp) (by decide) fun s' t y' => ?_
  exact hQ _ _ (y.trans y') ⟨t, by simp [lens]⟩
/-- _Accumulator(e).push('', '') -/
theorem Ev.push0 {fp cp apos pos : Pos} {pl : Sem Bool} {e : Expr} {args : List Expr} {first : Int} {sa sb : Str} (kp : KP p K) (hg : EvG p w K env (.Name "_Accumulator" fp) (.ref 125)) (hc : PlainF p w K (.ref 125)) (hfe : Ev p w K n env σ e (.int first)) (ha : EvLs p w K n env σ args [.str sa, .str sb])
    (hst : starEach [e] env = (false, eval e env) :: starEach [] env) (hns : (backTo cp (starEach [e] env)).any (·.1) = false) (hns' : (backTo pos (starEach args env)).any (·.1) = false)
    (hbase : attributeBase (.Call (.Name "_Accumulator" fp) [e] [] cp) "push" env (eval (.Call (.Name "_Accumulator" fp) [e] [] cp) env) = eval (.Call (.Name "_Accumulator" fp) [e] [] cp) env)
    (he : eval (.Call (.Attribute (.Call (.Name "_Accumulator" fp) [e] [] cp) "push" apos) args [] pos) env = (do
      let ov ← attributeBase (.Call (.Name "_Accumulator" fp) [e] [] cp) "push" env (eval (.Call (.Name "_Accumulator" fp) [e] [] cp) env)
      standAt apos.atName
      let (f, first) ← holding [ov] (getMethod ov "push" pl)
      callWith pos f first (backTo pos (starEach args env)) [])) : Ev p w K n env σ (.Call (.Attribute (.Call (.Name "_Accumulator" fp) [e] [] cp) "push" apos) args [] pos) .none := fun O A s Q E ok st hQ => by
  have d1 := ok.depth
  refine Mine.methodCall ?_ he
  rw [hbase]
  refine evCall st hg hc hns (spliced_more (hfe O A s _ E ok st fun v s₁ y₁ r₁ => spliced_none ⟨(st.sh y₁).wd.kin, ?_⟩) hst)
  obtain ⟨t, rfl⟩ := r₁
  have st₁ := st.sh y₁
  refine wpAny_call (make_call (i := first) kp.kx kp.kc kp.km st₁.wd st₁.hi (by simp only [recursionLimit]; omega) (F.argsNew1 _) (fun a s' k => ⟨t, bind_one kp.km (st₁.wd.kin.keeps k)⟩) fun h' tk x dx od e' h1 h2 h3 h4 h5 h6 h7 => ?_)
  have y2 : Sh s₁ { s₁ with heap := h', toks := tk } := .mk' (.of h7)
  have st₂ := st₁.sh y2
  refine getMeth kp.kc st₂.wd.kin h4 h5 kp.kc.push (kp.km.typ 69 (by decide)) (by decide) (shadow h6 (by decide)) ?_
  refine callWith_of (P := K.In) (by rw [hns']; rfl) (fun h X => keeps_K kp.km.push.keep h X) (evArgs hns' (ha O A _ _ E pos ok st₂ fun us s₃ y₃ r => ⟨(st₂.sh y₃).wd.kin, ?_⟩))
  simp only [RdL, Rd] at r
  obtain ⟨v1, us', rfl, ⟨t1, rfl⟩, v2, us'', rfl, ⟨t2, rfl⟩, rfl⟩ := r
  have st₃ := st₂.sh y₃
  have lo : ∀ b, s₁.heap.objs.size ≤ b → b ≠ tA ∧ b ≠ tB := fun b hb => by
    have := Nat.le_trans st₁.hi hb
    exact ⟨fun q => by subst q; exact absurd this (by decide), fun q => by subst q; exact absurd this (by decide)⟩
  have g4 := y₃.kp.get _ _ (lo _ h1).1 (lo _ h1).2 h4
  have g5 := y₃.kp.get _ _ (lo _ h2).1 (lo _ h2).2 h5
  refine wpAny_call (push_call (vs := []) kp.kx kp.kc kp.km st₃.wd (by simp only [recursionLimit]; omega) g4 g5 h6 (by simp) fun h'' tk'' T o e'' hT1 hT2 hT3 hx' k' => ?_)
  have yy : Sh s₁ { s₃ with heap := h'', toks := tk'' } := (y2.trans y₃).turn (T := [x]) (fun b hb => List.mem_singleton.mp hb ▸ (st₁.toStO.gone h1).1) fun b o hb e => k' b o (by simpa using hb) e
  exact hQ _ _ (y₁.trans yy) rfl
/-- sum(o.values()), of ints -/
theorem Ev.sumV {lp apos cpos pos : Pos} {o : Expr} {ks : List (Str × Int)} (hg : EvG p w K env (.Name "sum" lp) (.builtin "sum")) (ho : EvV p w K n env σ o (.dict (toK .int ks)))
    (hst : starEach [.Call (.Attribute o "values" apos) [] [] cpos] env = (false, eval (.Call (.Attribute o "values" apos) [] [] cpos) env) :: starEach [] env) (hns : (backTo pos (starEach [.Call (.Attribute o "values" apos) [] [] cpos] env)).any (·.1) = false)
    (hbase : attributeBase o "values" env (eval o env) = eval o env) (few : Few env [] cpos) (hline : (apos.endLine == cpos.line) = true) :
    Ev p w K n env σ (.Call (.Name "sum" lp) [.Call (.Attribute o "values" apos) [] [] cpos] [] pos) (.int (ks.map (·.2)).sum) := fun O A s Q E ok st hQ => by
  refine evCall st hg PlainF.bi hns (spliced_more ?_ hst)
  refine wpAny_Call_method hbase few.few hline F.plainAttrs_dict F.slot_dict_values F.type_dict_values (ho O A s _ E ok st fun ov s₁ y₁ r₁ => ?_)
  obtain ⟨d, ob, kvs, rfl, hob, hk, rk⟩ := r₁
  have st₁ := st.sh y₁
  have hd := hk.at hob
  obtain ⟨ep, hat⟩ := hd.dictAt
  refine ⟨hd.typeIs, fun b e => ?_, ?_⟩
  · cases e
    obtain ⟨_, es, ep, hx, _⟩ := hk
    exact ⟨_, hob, hx.2.1⟩
  refine callWith_of (P := fun h => h = s₁.heap) (by rw [few.ns]; rfl) (fun h _ => PlainF.bi (p := p) (w := w) (K := []) h (by intro a o e; cases e)) (evArgs few.ns (spliced_none ⟨rfl, ?_⟩))
  refine call_meetsIn F.slot_dict_values hd.typeIs F.entry_dict_values (F.args_dict_values_1 _) (meets_dict_values (PySem.strKind p w) d hk.mods) ⟨⟨kvs, hd⟩, ?_⟩
  refine spliced_none ?_
  have yv : Sh s₁ { s₁ with heap := s₁.heap.push { cls := .type "dict_values", data := .fields #[.ref d] } } := StO.allocSh
  refine ⟨(st₁.sh yv).wd.kin, ?_⟩
  have hne : d ≠ s₁.heap.objs.size := Nat.ne_of_lt hat.lt_size
  have hlen : kvs.length = ks.length := by rw [← rk.length, toK_len]
  refine call_sum_walkG (wpAny_pyIter_values (knd := PySem.strKind p w) (kvs := kvs) (ep := ep) (d := d) ⟨_, Heap.get?_push_size _ rfl, rfl, rfl⟩ (hat.push _) ?_)
  have hsz : (s₁.heap.push { cls := .type "dict_values", data := .fields #[.ref d] }).objs.size = s₁.heap.objs.size + 1 := Heap.size_push ..
  have hne2 : d ≠ s₁.heap.objs.size + 1 := Nat.ne_of_lt (Nat.lt_succ_of_lt hat.lt_size)
  dsimp only
  rw [hsz]
  refine ⟨_, [s₁.heap.objs.size + 1, d], [s₁.heap.objs.size + 1], _, _, _, fun i => (ks.map (·.2)).getD i 0, rfl, Walks.dictValues (A := A.in1) (knd := PySem.strKind p w) ok.hand _ d hne2 kvs ep, ⟨⟨_, by rw [← hsz]; exact Heap.get?_push_size _ rfl, rfl, rfl⟩, (hat.push _).push _⟩, fun b hb => ?_, fun i v hv => ?_, fun h' tk t' hk' => ?_⟩
  · show b < ((s₁.heap.push _).push _).objs.size
    rw [Heap.size_push, Heap.size_push]
    rcases List.mem_cons.mp hb with rfl | hb
    · exact Nat.lt_succ_self _
    · rw [List.mem_singleton.mp hb]; exact Nat.lt_succ_of_lt (Nat.lt_succ_of_lt hat.lt_size)
  · obtain ⟨k, hx⟩ := hv
    have gen : ∀ {ks : List (Str × Int)} {kvs : List (Str × Value)} {i : Nat} {g : Look}, RdK p w g (toK .int ks) kvs → kvs[i]? = some (k, v) → ∃ t, v = .int ((ks.map (·.2)).getD i 0) t := by
      intro ks
      induction ks with
      | nil => intro kvs i g r e; simp only [toK, List.map_nil, RdK] at r; subst r; simp at e
      | cons a ks ih =>
        intro kvs i g r e
        obtain ⟨a1, a2⟩ := a
        simp only [toK, List.map_cons, RdK, Rd] at r
        obtain ⟨u, kvs', rfl, ⟨t, rfl⟩, h2⟩ := r
        cases i with
        | zero => simp at e; exact ⟨t, by simp [e.2.symm]⟩
        | succ i =>
          obtain ⟨t', e'⟩ := ih (i := i) h2 (by simpa using e)
          exact ⟨t', by simpa using e'⟩
    exact gen rk hx
  · have e1 := preSum_take (ks.map (·.2)) kvs.length (by rw [List.length_map, hlen]; exact Nat.le_refl _)
    rw [hlen] at e1
    have e2 : (ks.map (·.2)).take ks.length = ks.map (·.2) := List.take_of_length_le (by rw [List.length_map]; exact Nat.le_refl _)
    rw [e2] at e1
    rw [hlen, e1]
    have yy : Sh s₁ { s₁ with heap := h', toks := tk } := .mk' (.of fun b o e => hk' b o (fun q => by
      rw [List.mem_singleton.mp q] at e
      exact absurd (Heap.lt_size e) (Nat.not_lt.mpr (Nat.le_succ _))) (Heap.get?_push_of_some _ (Heap.get?_push_of_some _ e)))
    exact hQ _ _ (y₁.trans yy) ⟨t', rfl⟩
/-- x == y == z, of bytes -/
theorem Ev.chainY {a b c : Expr} {pos : Pos} {x y z : Array UInt8} (ha : Ev p w K n env σ a (.bytes x)) (hb : Ev p w K n env σ b (.bytes y)) (hc : Ev p w K n env σ c (.bytes z)) (hm : lastMarks [.Eq, .Eq] [b, c] = false) :
    Ev p w K n env σ (.Compare a [.Eq, .Eq] [b, c] pos) (.bool ((x.toList == y.toList) && (y.toList == z.toList))) := fun O A s Q E ok st hQ => by
  refine Compare_chain (ha O A s _ E ok st fun v1 s₁ y₁ r₁ => ?_) hm
  have st₁ := st.sh y₁
  obtain ⟨t1, rfl⟩ := r₁
  refine chain_link (hb O A s₁ _ E ok st₁ fun v2 s₂ y₂ r₂ => ?_)
  have st₂ := st₁.sh y₂
  obtain ⟨t2, rfl⟩ := r₂
  refine CmpOk.eqY (a := x) (b := y) O A s₂ _ _ _ E ok st₂.toStO ⟨t1, rfl⟩ ⟨t2, rfl⟩ fun s₃ y₃ => ?_
  have st₃ := st₂.sh y₃
  refine wpAny_truthy_bool ?_
  cases hxy : (x.toList == y.toList) with
  | false =>
    simp only [Bool.false_eq_true, if_false]
    exact hQ _ _ ((y₁.trans y₂).trans y₃) (by rw [hxy]; rfl)
  | true =>
    simp only [if_true]
    refine chain_last (hc O A s₃ _ E ok st₃ fun v3 s₄ y₄ r₄ => ?_)
    have st₄ := st₃.sh y₄
    obtain ⟨t3, rfl⟩ := r₄
    refine CmpOk.eqY (a := y) (b := z) O A s₄ _ _ _ E ok st₄.toStO ⟨t2, rfl⟩ ⟨t3, rfl⟩ fun s₅ y₅ => ?_
    exact hQ _ _ ((((y₁.trans y₂).trans y₃).trans y₄).trans y₅) (by rw [hxy]; rfl)
end Mine
end
section
open PySem PySem.Spec PySem.Calls PyProof.Rows PySem.W
namespace Mine
/-! the row: some ties in some order -/
theorem erase_perm {l : List Str} {j : Nat} (hj : j < l.length) : (l[j] :: l.eraseIdx j).Perm l := by
  have e1 : l.take j ++ l[j] :: l.drop (j + 1) = l := by
    rw [← List.drop_eq_getElem_cons hj, List.take_append_drop]
  rw [List.eraseIdx_eq_take_drop_succ]
  have h := (List.perm_middle (a := l[j]) (l₁ := l.take j) (l₂ := l.drop (j + 1))).symm
  exact h.trans (by rw [e1])
theorem pick_perm : ∀ (k : Nat) (l : List Str) (o : Int), l.length = k → (pickL k l o).Perm l
  | 0, l, o, h => by rw [List.length_eq_zero_iff.mp h]; exact .refl _
  | k + 1, l, o, h => by
    have hj := (fmod_lt (o := o) (k := k)).1
    rw [pickL]
    generalize (o.fmod ((k : Int) + 1)).toNat = j at hj ⊢
    have hjl : j < l.length := by omega
    have e : l.getD j "" = l[j] := by rw [List.getD_eq_getElem?_getD, List.getElem?_eq_getElem hjl]; rfl
    rw [e]
    refine (List.Perm.cons _ (pick_perm k _ _ ?_)).trans (erase_perm hjl)
    rw [List.length_eraseIdx_of_lt hjl]; omega
theorem row_perm (number order : Int) : (rowOf number order).Perm (restOf number) := pick_perm _ _ _ rfl
/-- the ties that a number of six bits tells -/
noncomputable def tiesOf (m : Nat) : List Str := ((List.range 6).filter fun k => m.testBit k).map fun k => ties.getD k ""
noncomputable def maskOf (f : Nat → Bool) : Nat := ((List.range 6).map fun k => if f k then 2 ^ k else 0).sum
theorem mask_bits (f : Nat → Bool) : maskOf f < 64 ∧ ∀ k < 6, (maskOf f).testBit k = f k := by
  have e : ∀ b0 b1 b2 b3 b4 b5 : Bool, (maskOf fun k => [b0, b1, b2, b3, b4, b5].getD k false) < 64 ∧ ∀ k : Fin 6, (maskOf fun k => [b0, b1, b2, b3, b4, b5].getD k false).testBit (k : Nat) = [b0, b1, b2, b3, b4, b5].getD (k : Nat) false := by decide +kernel
  have h := e (f 0) (f 1) (f 2) (f 3) (f 4) (f 5)
  have hm : (maskOf fun k => [f 0, f 1, f 2, f 3, f 4, f 5].getD k false) = maskOf f := rfl
  rw [hm] at h
  refine ⟨h.1, fun k hk => ?_⟩
  have h2 := h.2 ⟨k, hk⟩
  rw [h2]
  match k, hk with
  | 0, _ => rfl
  | 1, _ => rfl
  | 2, _ => rfl
  | 3, _ => rfl
  | 4, _ => rfl
  | 5, _ => rfl
theorem rest_mask (number : Int) : ∃ m < 64, restOf number = tiesOf m := by
  obtain ⟨h1, h2⟩ := mask_bits (fun k => tieOut number k)
  refine ⟨maskOf (fun k => tieOut number k), h1, ?_⟩
  unfold restOf tiesOf
  congr 1
  refine List.filter_congr fun k hk => ?_
  rw [h2 k (by simpa using hk)]
theorem row_mask (number order : Int) : ∃ m < 64, (rowOf number order).Perm (tiesOf m) := by
  obtain ⟨m, h1, h2⟩ := rest_mask number
  exact ⟨m, h1, h2 ▸ row_perm number order⟩
theorem tiesOf_sub (m : Nat) : ∀ t ∈ tiesOf m, t ∈ ties := fun t ht => by
  obtain ⟨k, hk, rfl⟩ := List.mem_map.mp ht
  have : k < 6 := by simpa using (List.mem_filter.mp hk).1
  rw [List.getD_eq_getElem?_getD, List.getElem?_eq_getElem (show k < ties.length from this)]
  exact List.getElem_mem _
theorem ties_map : (List.range 6).map (fun k => ties.getD k "") = ties := by decide +kernel
theorem ties_nd : ties.Nodup := by decide +kernel
theorem tiesOf_sl (m : Nat) : (tiesOf m).Sublist ties := by
  have := (List.filter_sublist (p := fun k => m.testBit k) (l := List.range 6)).map (fun k => ties.getD k "")
  rw [ties_map] at this
  exact this
/-- what a row is -/
structure RowOk (row : List Str) : Prop where
  sub : ∀ t ∈ row, t ∈ ties
  nd : row.Nodup
  len : row.length ≤ 6
theorem row_ok (number order : Int) : RowOk (rowOf number order) := by
  obtain ⟨m, h1, h2⟩ := row_mask number order
  have hs := tiesOf_sl m
  refine ⟨fun t ht => tiesOf_sub m t (h2.mem_iff.mp ht), h2.nodup_iff.mpr (ties_nd.sublist hs), ?_⟩
  rw [h2.length_eq]
  exact hs.length_le
end Mine
end
section
open PySem PySem.Spec PySem.Calls PyProof.Rows PySem.W
namespace Mine
/-! ways and ties as numbers -/
noncomputable def wpts : Nat → List Nat := fun k => (([[], [0], [1, 0], [2, 0], [3, 0], [1, 2, 0], [1, 3, 0], [2, 1, 0], [2, 3, 0], [3, 1, 0], [3, 2, 0], [1, 2, 3, 0], [1, 3, 2, 0], [2, 1, 3, 0], [2, 3, 1, 0], [3, 1, 2, 0], [3, 2, 1, 0]] : List (List Nat))).getD k []
noncomputable def treeK : Nat → Nat := fun k => ([0, 0, 0, 1, 3, 2, 4, 2, 5, 4, 5, 2, 4, 2, 5, 4, 5] : List Nat).getD k 0
noncomputable def tE : Nat → Nat × Nat := fun i => ([(0, 1), (0, 2), (1, 2), (0, 3), (1, 3), (2, 3)] : List (Nat × Nat)).getD i (0, 0)
noncomputable abbrev tT (i : Nat) : Str := ties.getD i ""
noncomputable def tNo (t : Str) : Nat := ties.idxOf t
theorem tno_at {t : Str} (h : t ∈ ties) : tNo t < 6 ∧ tT (tNo t) = t ∧ sg t 0 = pts4.getD (tE (tNo t)).1 "" ∧ sg t 1 = pts4.getD (tE (tNo t)).2 "" ∧ pNo (sg t 0) = (tE (tNo t)).1 ∧ pNo (sg t 1) = (tE (tNo t)).2 ∧ sg t 0 ∈ pts4 ∧ sg t 1 ∈ pts4 ∧ sg t 0 ≠ sg t 1 := by
  have : ∀ t ∈ ties, tNo t < 6 ∧ tT (tNo t) = t ∧ sg t 0 = pts4.getD (tE (tNo t)).1 "" ∧ sg t 1 = pts4.getD (tE (tNo t)).2 "" ∧ pNo (sg t 0) = (tE (tNo t)).1 ∧ pNo (sg t 1) = (tE (tNo t)).2 ∧ sg t 0 ∈ pts4 ∧ sg t 1 ∈ pts4 ∧ sg t 0 ≠ sg t 1 := by decide +kernel
  exact this t h
theorem tT_no {i : Nat} (h : i < 6) : tT i ∈ ties ∧ tNo (tT i) = i := by
  have : ∀ i : Fin 6, tT (i : Nat) ∈ ties ∧ tNo (tT (i : Nat)) = (i : Nat) := by decide +kernel
  exact this ⟨i, h⟩
theorem way_in {q : Str} (hq : q ∈ pts4) {k : Nat} (hk : k ≤ 16) : strIn q ((wy k).getD "") = (wpts k).contains (pNo q) := by
  have : ∀ q ∈ pts4, ∀ k : Fin 17, strIn q ((wy (k : Nat)).getD "") = (wpts (k : Nat)).contains (pNo q) := by decide +kernel
  exact this q hq ⟨k, by omega⟩
theorem way_cut {k : Nat} (h2 : 2 ≤ k) (hk : k ≤ 16) : tieOf (cut2 ((wy k).getD "")) = tT (treeK k) ∧ cut2 ((wy k).getD "") ∈ twos ∧ treeK k < 6 := by
  have : ∀ k : Fin 15, tieOf (cut2 ((wy ((k : Nat) + 2)).getD "")) = tT (treeK ((k : Nat) + 2)) ∧ cut2 ((wy ((k : Nat) + 2)).getD "") ∈ twos ∧ treeK ((k : Nat) + 2) < 6 := by decide +kernel
  have h := this ⟨k - 2, by omega⟩
  have e : ((⟨k - 2, by omega⟩ : Fin 15) : Nat) + 2 = k := by show k - 2 + 2 = k; omega
  rw [e] at h
  exact h
/-- a tie that a set of points parts -/
noncomputable def crN (m i : Nat) : Bool := m.testBit (tE i).1 != m.testBit (tE i).2
noncomputable def ringN (x : Cfg) (i : Nat) : List Nat := ([1, 2, 3].filter fun f => cAt x f != 0 && ((wpts (cAt x (tE i).1)).contains f != (wpts (cAt x (tE i).2)).contains f)).map fun f => treeK (cAt x f)
noncomputable def mskN (x : Cfg) : Nat := 1 + (if x.1 != 0 then 2 else 0) + (if x.2.1 != 0 then 4 else 0) + (if x.2.2 != 0 then 8 else 0)
theorem msk_ok : (cfgs.all fun x => decide (mskN x < 16) && (List.range 4).all fun i => (mskN x).testBit i == (cAt x i != 0)) = true := by decide +kernel
theorem cfg_two : (cfgs.all fun x => [1, 2, 3].all fun f => cAt x f == 0 || decide (2 ≤ cAt x f)) = true := by decide +kernel
theorem tree_ends : (cfgs.all fun x => [1, 2, 3].all fun f => cAt x f == 0 || (cAt x (tE (treeK (cAt x f))).1 != 0 && cAt x (tE (treeK (cAt x f))).2 != 0)) = true := by decide +kernel
/-- the ring of a tie between two points that burn -/
theorem ring_cut : (cfgs.all fun x => (List.range 6).all fun i => cAt x (tE i).1 == 0 || cAt x (tE i).2 == 0 ||
    (!(ringN x i).isEmpty && (List.range 16).all fun m => (!crN m i || (ringN x i).any (crN m)) && ((ringN x i).contains i || (ringN x i).all fun k => !crN m k || (i :: ringN x i).any fun g => g != k && crN m g))) = true := by decide +kernel
/-- the tie by which a point comes to burn -/
theorem new_tie : (cfgs.all fun x => [1, 2, 3].all fun f => (List.range 4).all fun r => !(cAt x f == 0 && cAt x r != 0) || (List.range 6).all fun i => !(((tE i).1 == f && (tE i).2 == r) || ((tE i).1 == r && (tE i).2 == f)) || treeK ((nbT.getD f []).getD (cAt x r) 0) == i) = true := by decide +kernel
end Mine
end
section
open PySem PySem.Spec PySem.Calls PyProof.Rows PySem.W
namespace Mine
theorem all_of {α : Type} {l : List α} {f : α → Bool} (h : l.all f = true) {a : α} (ha : a ∈ l) : f a = true := List.all_eq_true.mp h a ha
theorem cLk_step2 {x : Cfg} (hx : x ∈ cfgs) {q r : Str} {v : Str} (hq : q ∈ pts3) (hr : r ∈ pts4) (h0 : cLk x q = none) (h1 : cLk x r = some v) : cStep x (pNo q) (pNo r) ∈ cfgs ∧ (∀ z ∈ pts4, cLk (cStep x (pNo q) (pNo r)) z = if z = q then some (q ++ v) else cLk x z) ∧
    (∀ i < 4, cAt (cStep x (pNo q) (pNo r)) i = if i = pNo q then (nbT.getD (pNo q) []).getD (cAt x (pNo r)) 0 else cAt x i) ∧ cAt x (pNo q) = 0 ∧ cAt x (pNo r) ≠ 0 := by
  obtain ⟨f, hf, hqf⟩ := pts3_at hq
  have hrl := (pts_at hr).1
  have a0 : cAt x (f + 1) = 0 := by
    have := cLk_some hx (pts34 hq)
    rw [h0, hqf] at this
    simpa using this.symm
  have a1 : cAt x (pNo r) ≠ 0 := by
    have := cLk_some hx hr
    rw [h1] at this
    simpa using this.symm
  have h4 := all_of (all_of (all_of cfg_step hx) (a := f) (by simpa using hf)) (a := pNo r) (by simpa using hrl)
  have a2 : (cAt x (pNo r) != 0) = true := by simpa using a1
  rw [a0, a2] at h4
  simp only [beq_self_eq_true, Bool.and_self, Bool.not_true, Bool.false_or, Bool.and_eq_true, decide_eq_true_eq] at h4
  obtain ⟨⟨⟨h5, h6⟩, h7⟩, h8⟩ := h4
  rw [hqf]
  refine ⟨by simpa using h5, fun z hz => ?_, fun i hi => ?_, a0, a1⟩
  · have hzl := (pts_at hz).1
    unfold cLk cStep
    rw [cAt_put hf hzl]
    by_cases e : z = q
    · subst e
      rw [if_pos hqf, if_pos rfl]
      have t3 := all_of (all_of nb_txt (a := f) (by simpa using hf)) (a := cAt x (pNo r)) (by simp; omega)
      have h6' : ((nbT.getD (f + 1) []).getD (cAt x (pNo r)) 0 == 0) = false := by simpa using h6
      rw [h6', Bool.false_or] at t3
      have h1' : wy (cAt x (pNo r)) = some v := h1
      rw [h1', ← hqf, (pts_at hz).2] at t3
      rw [← hqf]
      exact beq_iff_eq.mp t3
    · rw [if_neg (fun h => e (pNo_inj hz (pts34 hq) (h.trans hqf.symm))), if_neg e]
  · unfold cStep
    rw [cAt_put hf hi]
theorem cnt_add {asked : List Str} {t : Str} {P : Str → Bool} (hna : t ∉ asked) : ∀ {row : List Str}, row.Nodup → t ∈ row →
    (row.filter fun u => decide (u ∈ asked ++ [t]) && P u).length = (row.filter fun u => decide (u ∈ asked) && P u).length + (if P t then 1 else 0)
  | [], _, h => by simp at h
  | z :: l, hn, h => by
    rw [List.nodup_cons] at hn
    rw [List.filter_cons, List.filter_cons]
    by_cases e : z = t
    · subst e
      have e1 : (l.filter fun u => decide (u ∈ asked ++ [z]) && P u) = l.filter fun u => decide (u ∈ asked) && P u := by
        refine List.filter_congr fun u hu => ?_
        have : u ≠ z := fun q => hn.1 (q ▸ hu)
        simp [this]
      rw [e1]
      cases hP : P z <;> simp [hna]
    · have ih := cnt_add (asked := asked) (P := P) hna hn.2 ((List.mem_cons.mp h).resolve_left (Ne.symm e))
      have e2 : decide (z ∈ asked ++ [t]) = decide (z ∈ asked) := by simp [e]
      rw [e2]
      cases hz : (decide (z ∈ asked) && P z)
      · simp only [Bool.false_eq_true, if_false]; exact ih
      · simp only [if_true, List.length_cons]; omega
theorem first_ready {P : Str → Bool} {t : Str} : ∀ {row r : List Str}, row.filter P = t :: r → ∀ k ∈ row, row.idxOf k < row.idxOf t → P k = false
  | [], r, h, k, hk, _ => by cases hk
  | a :: l, r, h, k, hk, hlt => by
    rw [List.filter_cons] at h
    cases hP : P a with
    | true =>
      rw [if_pos hP] at h
      obtain rfl : a = t := (List.cons.inj h).1
      rw [List.idxOf_cons_self] at hlt
      exact absurd hlt (Nat.not_lt_zero _)
    | false =>
      rw [if_neg (by rw [hP]; decide)] at h
      by_cases e : k = a
      · rw [e]; exact hP
      · have ht : t ≠ a := fun q => by
          have hm : t ∈ l.filter P := by rw [h]; exact List.mem_cons_self
          have := (List.mem_filter.mp hm).2
          rw [q, hP] at this; cases this
        have e1 : (a == k) = false := by simpa using Ne.symm e
        have e2 : (a == t) = false := by simpa using Ne.symm ht
        rw [List.idxOf_cons, List.idxOf_cons, e1, e2] at hlt
        exact first_ready h k ((List.mem_cons.mp hk).resolve_left e) (by simpa using hlt)
theorem end_in {t : Str} (ht : t ∈ ties) {q : Str} (hq : q ∈ pts4) : strIn q t = (decide (q = sg t 0) || decide (q = sg t 1)) := by
  have : ∀ t ∈ ties, ∀ q ∈ pts4, strIn q t = (decide (q = sg t 0) || decide (q = sg t 1)) := by decide +kernel
  exact this t ht q hq

/-- what is known of a fire that burns -/
structure Hist (row : List Str) (pat : Str → Int) (s : BSt) (x : Cfg) : Prop where
  cfg : x ∈ cfgs
  lk : ∀ q ∈ pts4, s.ways.lookup q = cLk x q
  sub : ∀ t ∈ s.asked, t ∈ row
  ends : ∀ t ∈ s.asked, inW s (sg t 0) = true ∨ inW s (sg t 1) = true
  tree : ∀ f ∈ [1, 2, 3], cAt x f ≠ 0 → tT (treeK (cAt x f)) ∈ s.asked
  hist : ∀ t ∈ s.asked, ∃ m < 16, crN m (tNo t) = true ∧ ∀ k ∈ row, crN m (tNo k) = true → row.idxOf k < row.idxOf t → k ∈ s.asked ∧ ∀ f ∈ [1, 2, 3], cAt x f ≠ 0 → tT (treeK (cAt x f)) ≠ k
  left : ∀ q ∈ pts3, inW s q = false → ∃ v : Int, s.left.lookup q = some v ∧ 0 ≤ v ∧ v = pat q - ((row.filter fun t => decide (t ∈ s.asked) && strIn q t).length : Nat)
theorem Hist.inw {row : List Str} {pat : Str → Int} {s : BSt} {x : Cfg} (h : Hist row pat s x) {q : Str} (hq : q ∈ pts4) : inW s q = (cAt x (pNo q) != 0) := by
  unfold inW; rw [h.lk q hq]; exact cLk_some h.cfg hq
theorem Hist.msk {row : List Str} {pat : Str → Int} {s : BSt} {x : Cfg} (h : Hist row pat s x) : mskN x < 16 ∧ ∀ t ∈ ties, crN (mskN x) (tNo t) = (inW s (sg t 0) != inW s (sg t 1)) := by
  have hm := all_of msk_ok h.cfg
  rw [Bool.and_eq_true, decide_eq_true_eq] at hm
  refine ⟨hm.1, fun t ht => ?_⟩
  obtain ⟨_, _, _, _, e0, e1, m0, m1, _⟩ := tno_at ht
  have b : ∀ q ∈ pts4, (mskN x).testBit (pNo q) = inW s q := fun q hq => by
    rw [h.inw hq]
    have := all_of hm.2 (a := pNo q) (by simpa using (pts_at hq).1)
    simpa using this
  unfold crN
  rw [← e0, ← e1, b _ m0, b _ m1]
theorem f_pts {f : Nat} (h : f ∈ [1, 2, 3]) : ∃ q ∈ pts3, pNo q = f := by
  have : ∀ f ∈ [1, 2, 3], pts4.getD f "" ∈ pts3 ∧ pNo (pts4.getD f "") = f := by decide +kernel
  exact ⟨_, (this f h).1, (this f h).2⟩
theorem pts3_f {q : Str} (h : q ∈ pts3) : pNo q ∈ [1, 2, 3] := by
  have : ∀ q ∈ pts3, pNo q ∈ [1, 2, 3] := by decide +kernel
  exact this q h
end Mine
end
section
open PySem PySem.Spec PySem.Calls PyProof.Rows PySem.W
namespace Mine
theorem Hist.ask {row : List Str} {pat : Str → Int} {s : BSt} {x : Cfg} {i : Nat} {t : Str} (rok : RowOk row) (h : Hist row pat s x) (g : GoodB i s) (ht : t ∈ row) (hr : readyB s t = true) (hf : ∀ k ∈ row, row.idxOf k < row.idxOf t → readyB s k = false) :
    ∃ y, Hist row pat (askB s t) y := by
  have htt := rok.sub t ht
  obtain ⟨l1, l2, l3⟩ := far_pts g htt hr
  obtain ⟨i6, tT0, g0, g1, p0, p1, m0, m1, hne⟩ := tno_at htt
  have hna : t ∉ s.asked := by
    unfold readyB at hr
    simp only [Bool.and_eq_true, Bool.not_eq_true', decide_eq_false_iff_not] at hr
    exact hr.1
  have hrx : (inW s (sg t 0) != inW s (sg t 1)) = true := by
    unfold readyB at hr; rw [Bool.and_eq_true] at hr; exact hr.2
  have fn : (farB s t = sg t 0 ∧ nearB s t = sg t 1) ∨ (farB s t = sg t 1 ∧ nearB s t = sg t 0) := by
    unfold farB nearB
    cases inW s (sg t 0)
    · left; simp
    · right; simp
  have hn4 : nearB s t ∈ pts4 := by rcases fn with ⟨_, e⟩ | ⟨_, e⟩ <;> rw [e] <;> assumption
  have hasked : (askB s t).asked = s.asked ++ [t] := by unfold askB; split <;> rfl
  obtain ⟨lv, hlv, hv0, hvc⟩ := h.left _ l1 l2
  have notIn : ∀ q ∈ pts3, inW s q = false → q ≠ farB s t → strIn q t = false := fun q hq hw hqf => by
    rw [end_in htt (pts34 hq)]
    have hqn : q ≠ nearB s t := fun e => by rw [e, l3] at hw; cases hw
    rcases fn with ⟨e1, e2⟩ | ⟨e1, e2⟩
    · rw [← e1, ← e2]; simp [hqf, hqn]
    · rw [← e1, ← e2]; simp [hqf, hqn]
  have farIn : strIn (farB s t) t = true := by
    rw [end_in htt (pts34 l1)]
    rcases fn with ⟨e1, _⟩ | ⟨e1, _⟩ <;> rw [e1] <;> simp
  obtain ⟨mlt, hm⟩ := h.msk
  -- the new tie's cut
  have newHist : crN (mskN x) (tNo t) = true ∧ ∀ k ∈ row, crN (mskN x) (tNo k) = true → row.idxOf k < row.idxOf t → k ∈ s.asked ∧ ∀ f ∈ [1, 2, 3], cAt x f ≠ 0 → tT (treeK (cAt x f)) ≠ k := by
    refine ⟨by rw [hm t htt]; exact hrx, fun k hk hc hlt => ?_⟩
    have hnr := hf k hk hlt
    rw [hm k (rok.sub k hk)] at hc
    refine ⟨?_, fun f hfm hcf e => ?_⟩
    · unfold readyB at hnr
      rw [hc, Bool.and_true] at hnr
      simpa using hnr
    · have he := all_of (all_of tree_ends h.cfg) hfm
      have hcf' : (cAt x f == 0) = false := by simpa using hcf
      rw [hcf', Bool.false_or, Bool.and_eq_true] at he
      obtain ⟨_, tk, _, _, k0, k1, n0, n1, _⟩ := tno_at (rok.sub k hk)
      have hk2 : tNo k = treeK (cAt x f) := by
        have h2 : 2 ≤ cAt x f := by
          have := all_of (all_of cfg_two h.cfg) hfm
          rw [hcf', Bool.false_or, decide_eq_true_eq] at this; exact this
        obtain ⟨q, hq, hqf⟩ := f_pts hfm
        have h16 : cAt x f ≤ 16 := by rw [← hqf]; exact cAt_le h.cfg (pts_at (pts34 hq)).1
        rw [← e]
        exact (tT_no (way_cut h2 h16).2.2).2
      rw [← hk2, ← k0, ← k1, ← h.inw n0, ← h.inw n1] at he
      rw [he.1, he.2] at hc
      cases hc
  by_cases hz : lv = 0
  · -- it burns
    unfold inW at l2 l3
    obtain ⟨wv, hwv⟩ := Option.isSome_iff_exists.mp l3
    have h0 : s.ways.lookup (farB s t) = none := by simpa using l2
    have hA : askB s t = { s with asked := s.asked ++ [t], ways := setP s.ways (farB s t) (farB s t ++ wv) } := by
      unfold askB; rw [hlv, hwv]; simp [hz]
    obtain ⟨c1, c2, c3, c4, c5⟩ := cLk_step2 h.cfg l1 hn4 ((h.lk _ (pts34 l1)).symm.trans h0) ((h.lk _ hn4).symm.trans hwv)
    generalize cStep x (pNo (farB s t)) (pNo (nearB s t)) = y at c1 c2 c3
    have hw' : ∀ z, (askB s t).ways.lookup z = if z = farB s t then some (farB s t ++ wv) else s.ways.lookup z := fun z => by rw [hA]; exact setP_lookup _ _ _ _
    have mono : ∀ q, inW s q = true → inW (askB s t) q = true := fun q hq => by
      unfold inW at hq ⊢
      rw [hw']; split
      · rfl
      · exact hq
    have farW : inW (askB s t) (farB s t) = true := by unfold inW; rw [hw', if_pos rfl]; rfl
    have newT : treeK ((nbT.getD (pNo (farB s t)) []).getD (cAt x (pNo (nearB s t))) 0) = tNo t := by
      have := all_of (all_of (all_of new_tie h.cfg) (pts3_f l1)) (a := pNo (nearB s t)) (by simpa using (pts_at hn4).1)
      rw [c4] at this
      have c5' : (cAt x (pNo (nearB s t)) != 0) = true := by simpa using c5
      rw [c5'] at this
      have e : (((tE (tNo t)).1 == pNo (farB s t) && (tE (tNo t)).2 == pNo (nearB s t)) || ((tE (tNo t)).1 == pNo (nearB s t) && (tE (tNo t)).2 == pNo (farB s t))) = true := by
        rw [← p0, ← p1]
        rcases fn with ⟨e1, e2⟩ | ⟨e1, e2⟩ <;> rw [e1, e2] <;> simp
      simp only [beq_self_eq_true, Bool.and_self, Bool.not_true, Bool.false_or] at this
      have this2 := all_of this (a := tNo t) (by simpa using i6)
      rw [e] at this2
      simpa using this2
    have lt4 : ∀ f ∈ [1, 2, 3], f < 4 := by decide
    have treeIs : ∀ f ∈ [1, 2, 3], cAt y f ≠ 0 → (f = pNo (farB s t) ∧ tT (treeK (cAt y f)) = t) ∨ (cAt x f ≠ 0 ∧ cAt y f = cAt x f) := fun f hfm hcf => by
      have := c3 f (lt4 f hfm)
      by_cases e : f = pNo (farB s t)
      · left
        rw [if_pos e] at this
        exact ⟨e, by rw [this, newT]; exact tT0⟩
      · right
        rw [if_neg e] at this
        exact ⟨by rw [← this]; exact hcf, this⟩
    refine ⟨y, ⟨c1, fun q hq => ?_, ?_, ?_, ?_, ?_, ?_⟩⟩
    · rw [c2 q hq, hw']
      split
      · rfl
      · exact h.lk q hq
    · intro u hu
      rw [hasked] at hu
      rcases List.mem_append.mp hu with hu | hu
      · exact h.sub u hu
      · rw [List.mem_singleton.mp hu]; exact ht
    · intro u hu
      rw [hasked] at hu
      rcases List.mem_append.mp hu with hu | hu
      · exact (h.ends u hu).imp (mono _) (mono _)
      · rw [List.mem_singleton.mp hu]
        rcases fn with ⟨e1, _⟩ | ⟨e1, _⟩
        · left; rw [← e1]; exact farW
        · right; rw [← e1]; exact farW
    · intro f hfm hcf
      rw [hasked]
      rcases treeIs f hfm hcf with ⟨_, e⟩ | ⟨e1, e2⟩
      · rw [e]; simp
      · rw [e2]; exact List.mem_append_left _ (h.tree f hfm e1)
    · intro u hu
      rw [hasked] at hu ⊢
      have key : ∀ m, (∀ k ∈ row, crN m (tNo k) = true → row.idxOf k < row.idxOf u → k ∈ s.asked ∧ ∀ f ∈ [1, 2, 3], cAt x f ≠ 0 → tT (treeK (cAt x f)) ≠ k) → ∀ k ∈ row, crN m (tNo k) = true → row.idxOf k < row.idxOf u →
          k ∈ s.asked ++ [t] ∧ ∀ f ∈ [1, 2, 3], cAt y f ≠ 0 → tT (treeK (cAt y f)) ≠ k := fun m hk0 k hk hc hlt => by
        obtain ⟨a1, a2⟩ := hk0 k hk hc hlt
        refine ⟨List.mem_append_left _ a1, fun f hfm hcf e => ?_⟩
        rcases treeIs f hfm hcf with ⟨_, e'⟩ | ⟨e1, e2⟩
        · rw [e'] at e; rw [← e] at a1; exact hna a1
        · rw [e2] at e; exact a2 f hfm e1 e
      rcases List.mem_append.mp hu with hu | hu
      · obtain ⟨m, hm1, hm2, hm3⟩ := h.hist u hu
        exact ⟨m, hm1, hm2, key m hm3⟩
      · rw [List.mem_singleton.mp hu] at key ⊢
        exact ⟨mskN x, mlt, newHist.1, key _ newHist.2⟩
    · intro q hq hw
      have hqf : q ≠ farB s t := fun e => by rw [e, farW] at hw; cases hw
      have hw0 : inW s q = false := by
        cases hc : inW s q with
        | false => rfl
        | true => rw [mono q hc] at hw; cases hw
      obtain ⟨v, hv, hv1, hv2⟩ := h.left q hq hw0
      refine ⟨v, by rw [hA]; exact hv, hv1, ?_⟩
      rw [hasked, cnt_add hna rok.nd ht, notIn q hq hw0 hqf]
      simpa using hv2
  · -- its patience shrinks
    have hA : askB s t = { s with asked := s.asked ++ [t], left := setP s.left (farB s t) (lv - 1) } := by
      unfold askB; rw [hlv]; simp [hz]
    have hW : ∀ q, inW (askB s t) q = inW s q := fun q => by unfold inW; rw [hA]
    refine ⟨x, ⟨h.cfg, fun q hq => by rw [hA]; exact h.lk q hq, ?_, ?_, ?_, ?_, ?_⟩⟩
    · intro u hu
      rw [hasked] at hu
      rcases List.mem_append.mp hu with hu | hu
      · exact h.sub u hu
      · rw [List.mem_singleton.mp hu]; exact ht
    · intro u hu
      rw [hasked] at hu
      rw [hW, hW]
      rcases List.mem_append.mp hu with hu | hu
      · exact h.ends u hu
      · rw [List.mem_singleton.mp hu]
        rcases fn with ⟨_, e1⟩ | ⟨_, e1⟩
        · right; rw [← e1]; exact l3
        · left; rw [← e1]; exact l3
    · intro f hfm hcf
      rw [hasked]; exact List.mem_append_left _ (h.tree f hfm hcf)
    · intro u hu
      rw [hasked] at hu ⊢
      have key : ∀ m, (∀ k ∈ row, crN m (tNo k) = true → row.idxOf k < row.idxOf u → k ∈ s.asked ∧ ∀ f ∈ [1, 2, 3], cAt x f ≠ 0 → tT (treeK (cAt x f)) ≠ k) → ∀ k ∈ row, crN m (tNo k) = true → row.idxOf k < row.idxOf u →
          k ∈ s.asked ++ [t] ∧ ∀ f ∈ [1, 2, 3], cAt x f ≠ 0 → tT (treeK (cAt x f)) ≠ k := fun m hk0 k hk hc hlt =>
        ⟨List.mem_append_left _ (hk0 k hk hc hlt).1, (hk0 k hk hc hlt).2⟩
      rcases List.mem_append.mp hu with hu | hu
      · obtain ⟨m, hm1, hm2, hm3⟩ := h.hist u hu
        exact ⟨m, hm1, hm2, key m hm3⟩
      · rw [List.mem_singleton.mp hu] at key ⊢
        exact ⟨mskN x, mlt, newHist.1, key _ newHist.2⟩
    · intro q hq hw
      rw [hW] at hw
      by_cases hqf : q = farB s t
      · subst hqf
        refine ⟨lv - 1, by rw [hA]; show (setP _ _ _).lookup _ = _; rw [setP_lookup, if_pos rfl], by omega, ?_⟩
        rw [hasked, cnt_add hna rok.nd ht, farIn]
        simp only [if_true]
        omega
      · obtain ⟨v, hv, hv1, hv2⟩ := h.left q hq hw
        refine ⟨v, by rw [hA]; show (setP _ _ _).lookup _ = _; rw [setP_lookup, if_neg hqf]; exact hv, hv1, ?_⟩
        rw [hasked, cnt_add hna rok.nd ht, notIn q hq hw hqf]
        simpa using hv2
end Mine
end
section
open PySem PySem.Spec PySem.Calls PyProof.Rows PySem.W
namespace Mine
section
variable {row : List Str} {b c d : Int}
theorem burn_cases (row : List Str) (s : BSt) : ((∀ t ∈ row, readyB s t = false) ∧ burnStep row s = s) ∨ (∃ t ∈ row, readyB s t = true ∧ (∀ k ∈ row, row.idxOf k < row.idxOf t → readyB s k = false) ∧ burnStep row s = askB s t) := by
  unfold burnStep
  cases h : row.filter (readyB s) with
  | nil =>
    left
    rw [List.filter_eq_nil_iff] at h
    exact ⟨fun t ht => by simpa using h t ht, rfl⟩
  | cons t r =>
    right
    have hm : t ∈ row.filter (readyB s) := by rw [h]; exact List.mem_cons_self
    exact ⟨t, (List.mem_filter.mp hm).1, (List.mem_filter.mp hm).2, first_ready h, rfl⟩
theorem Hist.it (rok : RowOk row) (h0 : 0 ≤ b ∧ 0 ≤ c ∧ 0 ≤ d) : ∀ k, ∃ x, Hist row (pv b c d) (burnIt row (burn0 b c d) k) x
  | 0 => by
    refine ⟨(0, 0, 0), by decide +kernel, ?_, fun t ht => (by cases ht), fun t ht => (by cases ht), fun f hf hc => ?_, fun t ht => (by cases ht), fun q hq hw => ?_⟩
    · have : ∀ q ∈ pts4, (burn0 0 0 0).ways.lookup q = cLk (0, 0, 0) q := by decide +kernel
      exact this
    · have : ∀ f ∈ [1, 2, 3], cAt (0, 0, 0) f = 0 := by decide
      exact absurd (this f hf) hc
    · have hpv : (burn0 b c d).left.lookup q = some (pv b c d q) := by
        simp only [pts3, List.mem_cons, List.not_mem_nil, or_false] at hq
        rcases hq with rfl | rfl | rfl <;> rfl
      refine ⟨_, hpv, ?_, ?_⟩
      · unfold pv; split
        · exact h0.1
        · split
          · exact h0.2.1
          · exact h0.2.2
      · have : (row.filter fun t => decide (t ∈ (burn0 b c d).asked) && strIn q t) = [] := by
          rw [List.filter_eq_nil_iff]
          intro t _ h
          simp [burn0] at h
        show pv b c d q = pv b c d q - (((row.filter fun t => decide (t ∈ (burn0 b c d).asked) && strIn q t).length : Nat) : Int)
        rw [this]; simp
  | k + 1 => by
    obtain ⟨x, h⟩ := Hist.it rok h0 k
    show ∃ x, Hist row _ (burnStep row (burnIt row (burn0 b c d) k)) x
    rcases burn_cases row (burnIt row (burn0 b c d) k) with ⟨_, e⟩ | ⟨t, ht, hr, hf, e⟩
    · rw [e]; exact ⟨x, h⟩
    · rw [e]; exact h.ask rok (GoodB.it rok.sub k) ht hr hf
/-- how many ties were asked -/
theorem asked_len (rok : RowOk row) : ∀ k, (∀ t ∈ row, readyB (burnIt row (burn0 b c d) k) t = false) ∨ (row.filter fun u => decide (u ∈ (burnIt row (burn0 b c d) k).asked) && true).length = k
  | 0 => by
    right
    have : (row.filter fun t => decide (t ∈ (burn0 b c d).asked) && true) = [] := by
      rw [List.filter_eq_nil_iff]
      intro t _ h
      simp [burn0] at h
    show (row.filter fun t => decide (t ∈ (burn0 b c d).asked) && true).length = 0
    rw [this]; rfl
  | k + 1 => by
    show (∀ t ∈ row, readyB (burnStep row (burnIt row (burn0 b c d) k)) t = false) ∨ (row.filter fun u => decide (u ∈ (burnStep row (burnIt row (burn0 b c d) k)).asked) && true).length = k + 1
    rcases burn_cases row (burnIt row (burn0 b c d) k) with ⟨h, e⟩ | ⟨t, ht, hr, _, e⟩
    · rw [e]; exact .inl h
    · rcases asked_len rok k with h | h
      · rw [h t ht] at hr; cases hr
      · right
        have hasked : (askB (burnIt row (burn0 b c d) k) t).asked = (burnIt row (burn0 b c d) k).asked ++ [t] := by unfold askB; split <;> rfl
        have hna : t ∉ (burnIt row (burn0 b c d) k).asked := by
          unfold readyB at hr
          simp only [Bool.and_eq_true, Bool.not_eq_true', decide_eq_false_iff_not] at hr
          exact hr.1
        rw [e, hasked]
        have := cnt_add (P := fun _ => true) hna rok.nd ht
        rw [this, h]; rfl
/-- the fire's end -/
theorem fire_end (rok : RowOk row) : ∀ t ∈ row, readyB (burnIt row (burn0 b c d) row.length) t = false := by
  rcases asked_len (b := b) (c := c) (d := d) rok row.length with h | h
  · exact h
  · rw [List.length_filter_eq_length_iff] at h
    intro t ht
    have := h t ht
    unfold readyB
    rw [Bool.and_true] at this
    rw [this]; rfl
end

theorem setP_nd {α : Type} (q : Str) (v : α) : ∀ {l : List (Str × α)}, (l.map (·.1)).Nodup → ((setP l q v).map (·.1)).Nodup
  | [], _ => by simp [setP]
  | (k, e) :: l, h => by
    by_cases hm : q ∈ ((k, e) :: l).map (·.1)
    · rw [setP_keys _ _ _ hm]; exact h
    · have hk : k ≠ q := fun e => hm (by simp [e])
      rw [setP, if_neg hk, List.map_cons, List.nodup_cons]
      rw [List.map_cons, List.nodup_cons] at h
      have hm2 : q ∉ l.map (·.1) := fun e => hm (List.mem_cons_of_mem _ e)
      refine ⟨fun hk2 => ?_, setP_nd q v h.2⟩
      obtain ⟨z, hz1, hz2⟩ := List.mem_map.mp hk2
      have keys : ∀ {l : List (Str × α)} {z : Str × α}, z ∈ setP l q v → z.1 = q ∨ z.1 ∈ l.map (·.1) := by
        intro l
        induction l with
        | nil => intro z hz; rw [setP, List.mem_singleton] at hz; rw [hz]; exact .inl rfl
        | cons a l ih =>
          intro z hz
          obtain ⟨a1, a2⟩ := a
          rw [setP] at hz
          split at hz
          · rename_i hq
            rcases List.mem_cons.mp hz with hz | hz
            · rw [hz]; exact .inl hq
            · exact .inr (List.mem_map.mpr ⟨z, List.mem_cons_of_mem _ hz, rfl⟩)
          · rcases List.mem_cons.mp hz with hz | hz
            · rw [hz]; exact .inr (by simp)
            · exact (ih hz).imp id (List.mem_cons_of_mem _)
      rcases keys hz1 with e | e
      · exact hk (hz2.symm.trans e)
      · exact h.1 (hz2 ▸ e)
theorem ways_nd {row : List Str} {b c d : Int} : ∀ k, ((burnIt row (burn0 b c d) k).ways.map (·.1)).Nodup
  | 0 => by show (([("a", "a")] : List (Str × Str)).map (·.1)).Nodup; simp
  | k + 1 => by
    show ((burnStep row (burnIt row (burn0 b c d) k)).ways.map (·.1)).Nodup
    rcases burn_cases row (burnIt row (burn0 b c d) k) with ⟨_, e⟩ | ⟨t, _, _, _, e⟩
    · rw [e]; exact ways_nd k
    · rw [e]; unfold askB; split
      · exact setP_nd _ _ (ways_nd k)
      · exact ways_nd k

/-! which lines stay -/
section
variable {row : List Str} {pat : Str → Int} {s : BSt} {x : Cfg}
theorem Hist.way (h : Hist row pat s x) {q : Str} (hq : q ∈ pts4) : wayL s.ways q = (wy (cAt x (pNo q))).getD "" := by unfold wayL; rw [h.lk q hq]; rfl
theorem Hist.inl (h : Hist row pat s x) {q : Str} (hq : q ∈ pts4) : inL s.ways q = (cAt x (pNo q) != 0) := h.inw hq
theorem Hist.ring (h : Hist row pat s x) {t : Str} (ht : t ∈ ties) : ringOf s.ways t = (ringN x (tNo t)).map tT := by
  obtain ⟨i6, tT0, g0, g1, p0, p1, m0, m1, hne⟩ := tno_at ht
  have e1 : pts3 = [1, 2, 3].map fun f => pts4.getD f "" := by decide +kernel
  have e3 : ∀ f ∈ [1, 2, 3], pts4.getD f "" ∈ pts4 ∧ pNo (pts4.getD f "") = f := by decide +kernel
  have l4 : ∀ {q : Str}, q ∈ pts4 → cAt x (pNo q) ≤ 16 := fun hq => cAt_le h.cfg (pts_at hq).1
  unfold ringOf ringN
  rw [e1, List.filter_map, List.map_map, List.map_map]
  have hfe : (inRing s.ways t ∘ fun f => pts4.getD f "") = fun f => inRing s.ways t (pts4.getD f "") := rfl
  rw [hfe]
  have hfil : ([1, 2, 3].filter fun f => inRing s.ways t (pts4.getD f "")) = ([1, 2, 3].filter fun f => cAt x f != 0 && ((wpts (cAt x (tE (tNo t)).1)).contains f != (wpts (cAt x (tE (tNo t)).2)).contains f)) := by
    refine List.filter_congr fun f hf => ?_
    obtain ⟨a1, a2⟩ := e3 f hf
    unfold inRing
    rw [h.inl a1, a2, h.way m0, h.way m1, way_in a1 (l4 m0), way_in a1 (l4 m1), a2, p0, p1]
  rw [hfil]
  refine List.map_congr_left fun f hf => ?_
  obtain ⟨hf1, hf2⟩ := List.mem_filter.mp hf
  obtain ⟨a1, a2⟩ := e3 f hf1
  rw [Bool.and_eq_true] at hf2
  have hcf : (cAt x f == 0) = false := by simpa using hf2.1
  have h2 : 2 ≤ cAt x f := by
    have := all_of (all_of cfg_two h.cfg) hf1
    rw [hcf, Bool.false_or, decide_eq_true_eq] at this; exact this
  have h16 : cAt x f ≤ 16 := by rw [← a2]; exact l4 a1
  show tieOf (cut2 (wayL s.ways (pts4.getD f ""))) = tT (treeK (cAt x f))
  rw [h.way a1, a2]
  exact (way_cut h2 h16).1
theorem maxI_spec {ns : List Int} (h : ns ≠ []) : maxI ns ∈ ns ∧ ∀ z ∈ ns, z ≤ maxI ns := by
  have hl := List.length_pos_iff.mpr h
  obtain ⟨h1, h2⟩ := argBest_gt (fun i => ns.getD i 0) (ns.length - 1)
  unfold maxI
  generalize argBest (fun i j => decide (ns.getD i 0 > ns.getD j 0)) (ns.length - 1) = m at h1 h2
  have hm : m < ns.length := by omega
  refine ⟨by rw [List.getD_eq_getElem?_getD, List.getElem?_eq_getElem hm]; exact List.getElem_mem _, fun z hz => ?_⟩
  obtain ⟨j, hj, rfl⟩ := List.mem_iff_getElem.mp hz
  have := h2 j (by omega)
  simpa [List.getD_eq_getElem?_getD, List.getElem?_eq_getElem hj] using this
/-- what stays of the lines, by the law, is what was not struck -/
theorem stays_end (rok : RowOk row) (h : Hist row pat s x) (hend : ∀ t ∈ row, readyB s t = false) {t : Str} (ht : t ∈ row) (gl : ∀ z ∈ s.ways, z.2.length ≤ 1000) (nd : (s.ways.map (·.1)).Nodup) : GoodW row s.ways t ∧ staysL row s.ways t = !decide (t ∈ s.asked) := by
  have htt := rok.sub t ht
  obtain ⟨i6, tT0, g0, g1, p0, p1, m0, m1, hne⟩ := tno_at htt
  have hring := h.ring htt
  have i0 : inL s.ways (sg t 0) = inW s (sg t 0) := rfl
  have i1 : inL s.ways (sg t 1) = inW s (sg t 1) := rfl
  have tree2 : ∀ k ∈ ringN x (tNo t), ∃ f ∈ [1, 2, 3], cAt x f ≠ 0 ∧ k = treeK (cAt x f) := fun k hk => by
    obtain ⟨f, hf, rfl⟩ := List.mem_map.mp hk
    obtain ⟨hf1, hf2⟩ := List.mem_filter.mp hf
    rw [Bool.and_eq_true] at hf2
    exact ⟨f, hf1, by simpa using hf2.1, rfl⟩
  have k6 : ∀ k ∈ ringN x (tNo t), k < 6 := fun k hk => by
    obtain ⟨f, hf, hc, rfl⟩ := tree2 k hk
    have hcf : (cAt x f == 0) = false := by simpa using hc
    have h2 : 2 ≤ cAt x f := by
      have := all_of (all_of cfg_two h.cfg) hf
      rw [hcf, Bool.false_or, decide_eq_true_eq] at this; exact this
    obtain ⟨q, hq, hqf⟩ := f_pts hf
    have h16 : cAt x f ≤ 16 := by rw [← hqf]; exact cAt_le h.cfg (pts_at (pts34 hq)).1
    exact (way_cut h2 h16).2.2
  have inRow : ∀ k ∈ ringN x (tNo t), tT k ∈ s.asked := fun k hk => by
    obtain ⟨f, hf, hc, rfl⟩ := tree2 k hk
    exact h.tree f hf hc
  have both : inW s (sg t 0) = true → inW s (sg t 1) = true → (ringN x (tNo t)).isEmpty = false ∧ ∀ m < 16, (crN m (tNo t) = true → ∃ k ∈ ringN x (tNo t), crN m k = true) ∧ (tNo t ∉ ringN x (tNo t) → ∀ k ∈ ringN x (tNo t), crN m k = true → ∃ g, (g = tNo t ∨ g ∈ ringN x (tNo t)) ∧ g ≠ k ∧ crN m g = true) := fun b0 b1 => by
    rw [h.inw m0, p0] at b0
    rw [h.inw m1, p1] at b1
    have hh := all_of (all_of ring_cut h.cfg) (a := tNo t) (by simpa using i6)
    have c0 : (cAt x (tE (tNo t)).1 == 0) = false := by simpa using b0
    have c1 : (cAt x (tE (tNo t)).2 == 0) = false := by simpa using b1
    rw [c0, c1, Bool.false_or, Bool.false_or, Bool.and_eq_true] at hh
    refine ⟨by simpa using hh.1, fun m hm => ?_⟩
    have h3 := all_of hh.2 (a := m) (by simpa using hm)
    rw [Bool.and_eq_true] at h3
    refine ⟨fun hc => ?_, fun hn k hk hc => ?_⟩
    · have := h3.1
      rw [hc, Bool.not_true, Bool.false_or, List.any_eq_true] at this
      exact this
    · have h4 := h3.2
      have hn' : (ringN x (tNo t)).contains (tNo t) = false := by simpa using hn
      rw [hn', Bool.false_or] at h4
      have h5 := all_of h4 hk
      rw [hc, Bool.not_true, Bool.false_or, List.any_eq_true] at h5
      obtain ⟨g, hg1, hg2⟩ := h5
      rw [Bool.and_eq_true] at hg2
      exact ⟨g, by simpa using hg1, by simpa using hg2.1, hg2.2⟩
  refine ⟨⟨htt, ht, gl, fun z hz hz3 => ?_, fun b0 b1 k hk => ?_, fun b0 b1 hnil => ?_⟩, ?_⟩
  · have hl : s.ways.lookup z.1 = some z.2 := lookMem nd hz
    have hw := h.way (pts34 hz3)
    have hz2 : wayL s.ways z.1 = z.2 := by unfold wayL; rw [hl]; rfl
    have hin : cAt x (pNo z.1) ≠ 0 := by
      have := h.inl (pts34 hz3)
      unfold inL at this
      rw [hl] at this
      simpa using this.symm
    have hcf : (cAt x (pNo z.1) == 0) = false := by simpa using hin
    have h2 : 2 ≤ cAt x (pNo z.1) := by
      have := all_of (all_of cfg_two h.cfg) (pts3_f hz3)
      rw [hcf, Bool.false_or, decide_eq_true_eq] at this; exact this
    rw [← hz2, hw]
    exact (way_cut h2 (cAt_le h.cfg (pts_at (pts34 hz3)).1)).2.1
  · rw [hring] at hk
    obtain ⟨j, hj, rfl⟩ := List.mem_map.mp hk
    exact h.sub _ (inRow j hj)
  · rw [hring, List.map_eq_nil_iff] at hnil
    have := (both b0 b1).1
    rw [hnil] at this; cases this
  · unfold staysL
    cases hb0 : inL s.ways (sg t 0) with
    | false =>
      cases hb1 : inL s.ways (sg t 1) with
      | false =>
        have hna : t ∉ s.asked := fun ha => by
          rcases h.ends t ha with e | e
          · rw [i0, e] at hb0; cases hb0
          · rw [i1, e] at hb1; cases hb1
        simp [hna]
      | true =>
        have hr := hend t ht
        unfold readyB at hr
        rw [← i0, ← i1, hb0, hb1] at hr
        have : t ∈ s.asked := by simpa using hr
        simp [this]
    | true =>
      cases hb1 : inL s.ways (sg t 1) with
      | false =>
        have hr := hend t ht
        unfold readyB at hr
        rw [← i0, ← i1, hb0, hb1] at hr
        have : t ∈ s.asked := by simpa using hr
        simp [this]
      | true =>
        obtain ⟨hne2, hcut⟩ := both hb0 hb1
        simp only [Bool.not_true, Bool.or_self, Bool.false_eq_true, if_false]
        rw [hring]
        have inj : ∀ {j k : Nat}, j < 6 → k < 6 → tT j = tT k → j = k := fun hj hk e => by
          have := congrArg tNo e
          rwa [(tT_no hj).2, (tT_no hk).2] at this
        have hns : ((ringN x (tNo t)).map tT).map (fun k => ((row.idxOf k : Nat) : Int)) ≠ [] := by
          intro e
          rw [List.map_eq_nil_iff, List.map_eq_nil_iff] at e
          rw [e] at hne2; cases hne2
        obtain ⟨mx1, mx2⟩ := maxI_spec hns
        by_cases ha : t ∈ s.asked
        · by_cases hin : tNo t ∈ ringN x (tNo t)
          · have : t ∈ (ringN x (tNo t)).map tT := List.mem_map.mpr ⟨_, hin, tT0⟩
            simp [this, ha]
          · obtain ⟨m, hm1, hm2, hm3⟩ := h.hist t ha
            obtain ⟨k, hk, hck⟩ := (hcut m hm1).1 hm2
            have hkr := h.sub _ (inRow k hk)
            have hkt : crN m (tNo (tT k)) = true := by rw [(tT_no (k6 k hk)).2]; exact hck
            have hge : row.idxOf t ≤ row.idxOf (tT k) := by
              rcases Nat.lt_or_ge (row.idxOf (tT k)) (row.idxOf t) with q | q
              · obtain ⟨f, hf, hc, e⟩ := tree2 k hk
                exact absurd (by rw [e]) ((hm3 _ hkr hkt q).2 f hf hc)
              · exact q
            have hmx := mx2 ((row.idxOf (tT k) : Nat) : Int) (List.mem_map.mpr ⟨tT k, List.mem_map.mpr ⟨k, hk, rfl⟩, rfl⟩)
            have : ¬ (maxI (((ringN x (tNo t)).map tT).map (fun k => ((row.idxOf k : Nat) : Int))) < ((row.idxOf t : Nat) : Int)) := by omega
            rw [decide_eq_false this]
            simp [ha]
        · have hnt : t ∉ (ringN x (tNo t)).map tT := fun hm => by
            obtain ⟨k, hk, e⟩ := List.mem_map.mp hm
            exact ha (e ▸ inRow k hk)
          have hin : tNo t ∉ ringN x (tNo t) := fun hm => hnt (List.mem_map.mpr ⟨_, hm, tT0⟩)
          obtain ⟨e, he, hemx⟩ := List.mem_map.mp mx1
          obtain ⟨k, hk, rfl⟩ := List.mem_map.mp he
          have hlt : row.idxOf (tT k) < row.idxOf t := by
            rcases Nat.lt_or_ge (row.idxOf (tT k)) (row.idxOf t) with q | q
            · exact q
            · exfalso
              have hka := inRow k hk
              obtain ⟨m, hm1, hm2, hm3⟩ := h.hist _ hka
              rw [(tT_no (k6 k hk)).2] at hm2
              obtain ⟨g, hg1, hg2, hg3⟩ := (hcut m hm1).2 hin k hk hm2
              have hg6 : g < 6 := hg1.elim (fun e => e ▸ i6) (k6 g)
              have hgr : tT g ∈ row := hg1.elim (fun e => by rw [e, tT0]; exact ht) fun hm => h.sub _ (inRow g hm)
              have hgt : crN m (tNo (tT g)) = true := by rw [(tT_no hg6).2]; exact hg3
              have hle : row.idxOf (tT g) ≤ row.idxOf (tT k) := by
                rcases hg1 with e | hm
                · rw [e, tT0]; exact q
                · have := mx2 ((row.idxOf (tT g) : Nat) : Int) (List.mem_map.mpr ⟨tT g, List.mem_map.mpr ⟨g, hm, rfl⟩, rfl⟩)
                  omega
              have hneq : row.idxOf (tT g) ≠ row.idxOf (tT k) := fun e => by
                have e2 : tT g = tT k := by
                  have a1 := List.getElem_idxOf (List.idxOf_lt_length_iff.mpr hgr)
                  have a2 := List.getElem_idxOf (List.idxOf_lt_length_iff.mpr (h.sub _ hka))
                  rw [← a1, ← a2]
                  simp only [e]
                exact hg2 (inj hg6 (k6 k hk) e2)
              obtain ⟨z1, z2⟩ := hm3 _ hgr hgt (by omega)
              rcases hg1 with e | hm
              · rw [e, tT0] at z1; exact ha z1
              · obtain ⟨f, hf, hc, e⟩ := tree2 g hm
                exact z2 f hf hc (by rw [e])
          have : maxI (((ringN x (tNo t)).map tT).map (fun k => ((row.idxOf k : Nat) : Int))) < ((row.idxOf t : Nat) : Int) := by rw [← hemx]; omega
          rw [decide_eq_true this]
          simp [ha, hnt]
end
end Mine
end
section
open PySem PySem.Spec PySem.Calls PyProof.Rows PySem.W
namespace Mine
/-! stuck groups -/
noncomputable def condG (row : List Str) (pat : Str → Int) (g : Str) : Bool := (ptsG row g).all fun q => !decide (pat q.1 < q.2)
noncomputable def stuckF : List (Bool × Str) → Str → Str
  | [], acc => acc
  | (b, g) :: r, acc => stuckF r (if b then acc ++ g else acc)
theorem join_sgs : ∀ g ∈ groups, Txt.join "" (sgs g) = g := by decide +kernel
theorem stuck_fold (row : List Str) (pat : Str → Int) : ∀ (gs : List Str) (acc : Str), (∀ g ∈ gs, g ∈ groups) → stuckS pat (gs.map fun g => (cutG row g, ptsG row g)) acc = stuckF (gs.map fun g => (condG row pat g, g)) acc
  | [], acc, _ => rfl
  | g :: gs, acc, h => by
    rw [List.map_cons, List.map_cons, stuckS, stuckF]
    have e : (ptsG row g).map (·.1) = sgs g := by unfold ptsG; rw [List.map_map]; exact List.map_id' _
    have e2 : Txt.join "" ((ptsG row g).map (·.1)) = g := by rw [e]; exact join_sgs g (h g List.mem_cons_self)
    rw [← stuck_fold row pat gs _ fun g hg => h g (List.mem_cons_of_mem _ hg)]
    show stuckS pat _ (if condG row pat g = true then acc ++ Txt.join "" ((ptsG row g).map (·.1)) else acc) = _
    rw [e2]
theorem stuck_in8 : ∀ b0 b1 b2 b3 b4 b5 b6 : Bool, ∀ q ∈ pts4, strIn q (stuckF [(b0, "b"), (b1, "c"), (b2, "d"), (b3, "bc"), (b4, "bd"), (b5, "cd"), (b6, "bcd")] "") =
    ([(b0, "b"), (b1, "c"), (b2, "d"), (b3, "bc"), (b4, "bd"), (b5, "cd"), (b6, "bcd")] : List (Bool × Str)).any fun z => z.1 && strIn q z.2 := by decide +kernel
theorem stuck_in (row : List Str) (pat : Str → Int) {q : Str} (hq : q ∈ pts4) : strIn q (stuckS pat (exitsOf row) "") = groups.any fun g => condG row pat g && strIn q g := by
  unfold exitsOf
  rw [stuck_fold row pat groups "" fun g hg => hg]
  exact stuck_in8 _ _ _ _ _ _ _ q hq
theorem stuck_nil8 : ∀ b0 b1 b2 b3 b4 b5 b6 : Bool, (stuckF [(b0, "b"), (b1, "c"), (b2, "d"), (b3, "bc"), (b4, "bd"), (b5, "cd"), (b6, "bcd")] "" == "") = !(b0 || b1 || b2 || b3 || b4 || b5 || b6) := by decide +kernel
theorem stuck_nil (row : List Str) (pat : Str → Int) : (stuckS pat (exitsOf row) "" == "") = !(groups.any fun g => condG row pat g) := by
  unfold exitsOf
  rw [stuck_fold row pat groups "" fun g hg => hg]
  refine (stuck_nil8 _ _ _ _ _ _ _).trans ?_
  simp [groups, Bool.or_assoc]
theorem sgs_in {q g : Str} (hq : q ∈ pts4) (hg : g ∈ groups) : q ∈ sgs g ↔ strIn q g = true := by
  have : ∀ q ∈ pts4, ∀ g ∈ groups, decide (q ∈ sgs g) = strIn q g := by decide +kernel
  rw [← this q hq g hg]; simp
theorem group_pts : ∀ g ∈ groups, ∀ q ∈ sgs g, q ∈ pts3 := by decide +kernel
/-- the points that do not burn are a group -/
theorem group_of (f : Str → Bool) (ha : f "a" = false) {q : Str} (hq : q ∈ pts4) (hf : f q = true) : ∃ g ∈ groups, ∀ z ∈ pts4, strIn z g = f z := by
  have key : ∀ b c d : Bool, (b || c || d) = true → ∃ g ∈ groups, strIn "a" g = false ∧ strIn "b" g = b ∧ strIn "c" g = c ∧ strIn "d" g = d := by decide +kernel
  have h1 : (f "b" || f "c" || f "d") = true := by
    simp only [pts4, List.mem_cons, List.not_mem_nil, or_false] at hq
    rcases hq with rfl | rfl | rfl | rfl
    · rw [ha] at hf; cases hf
    · rw [hf]; rfl
    · rw [hf]; simp
    · rw [hf]; simp
  obtain ⟨g, hg, e0, e1, e2, e3⟩ := key _ _ _ h1
  refine ⟨g, hg, fun z hz => ?_⟩
  simp only [pts4, List.mem_cons, List.not_mem_nil, or_false] at hz
  rcases hz with rfl | rfl | rfl | rfl
  · rw [e0, ha]
  · exact e1
  · exact e2
  · exact e3
theorem num_eq (row : List Str) (g q : Str) : ((waysG row g).filter fun t => strIn q t).length = (row.filter fun t => crossG g t && strIn q t).length := by
  unfold waysG
  rw [List.filter_filter]
  congr 1
  exact List.filter_congr fun t _ => Bool.and_comm _ _
theorem cond_iff {row : List Str} {pat : Str → Int} {g : Str} : condG row pat g = true ↔ ∀ q ∈ sgs g, ((row.filter fun t => crossG g t && strIn q t).length : Int) ≤ pat q := by
  unfold condG ptsG
  rw [List.all_map, List.all_eq_true]
  refine forall_congr' fun q => forall_congr' fun hq => ?_
  show (!decide (pat q < (((waysG row g).filter fun t => strIn q t).length : Nat))) = true ↔ _
  rw [num_eq]
  simp
theorem filter_le {α : Type} {P Q : α → Bool} : ∀ {l : List α}, (∀ a ∈ l, P a = true → Q a = true) → (l.filter P).length ≤ (l.filter Q).length
  | [], _ => by simp
  | a :: l, h => by
    have ih := filter_le fun b hb => h b (List.mem_cons_of_mem _ hb)
    rw [List.filter_cons, List.filter_cons]
    have h1 := h a List.mem_cons_self
    cases hP : P a
    · simp only [Bool.false_eq_true, if_false]
      split
      · exact Nat.le_succ_of_le ih
      · exact ih
    · rw [h1 hP]
      simp only [if_true, List.length_cons]; omega
section
variable {row : List Str} {b c d : Int}
/-- no point of a stuck group burns -/
theorem stuck_safe (rok : RowOk row) (h0 : 0 ≤ b ∧ 0 ≤ c ∧ 0 ≤ d) {g : Str} (hg : g ∈ groups) (hc : condG row (pv b c d) g = true) : ∀ k, ∀ q ∈ sgs g, inW (burnIt row (burn0 b c d) k) q = false
  | 0, q, hq => by
    have h3 := group_pts g hg q hq
    have : ∀ q ∈ pts3, inW (burn0 0 0 0) q = false := by decide +kernel
    exact this q h3
  | k + 1, q, hq => by
    have ih := stuck_safe rok h0 hg hc k
    obtain ⟨x, H⟩ := Hist.it rok h0 k
    have G := GoodB.it (b := b) (c := c) (d := d) rok.sub k
    show inW (burnStep row (burnIt row (burn0 b c d) k)) q = false
    generalize burnIt row (burn0 b c d) k = s at ih H G ⊢
    rcases burn_cases row s with ⟨_, e⟩ | ⟨t, ht, hr, _, e⟩
    · rw [e]; exact ih q hq
    · rw [e]
      have htt := rok.sub t ht
      obtain ⟨l1, l2, l3⟩ := far_pts G htt hr
      obtain ⟨i6, tT0, g0, g1, p0, p1, m0, m1, hne⟩ := tno_at htt
      have hna : t ∉ s.asked := by
        unfold readyB at hr
        simp only [Bool.and_eq_true, Bool.not_eq_true', decide_eq_false_iff_not] at hr
        exact hr.1
      obtain ⟨lv, hlv, hv0, hvc⟩ := H.left _ l1 l2
      by_cases hz : lv = 0
      · by_cases hqf : q = farB s t
        · exfalso
          subst hqf
          have hqp : farB s t ∈ pts4 := pts34 l1
          have fn : (farB s t = sg t 0 ∧ nearB s t = sg t 1) ∨ (farB s t = sg t 1 ∧ nearB s t = sg t 0) := by
            unfold farB nearB
            cases inW s (sg t 0)
            · left; simp
            · right; simp
          have gin : ∀ z ∈ pts4, inW s z = true → strIn z g = false := fun z hz hw => by
            cases hzg : strIn z g with
            | false => rfl
            | true => rw [ih z ((sgs_in hz hg).mpr hzg)] at hw; cases hw
          have fin : strIn (farB s t) g = true := (sgs_in hqp hg).mp hq
          have cross : ∀ u ∈ ties, (inW s (sg u 0) = true ∨ inW s (sg u 1) = true) → strIn (farB s t) u = true → crossG g u = true := fun u hu hw hin => by
            obtain ⟨_, _, _, _, _, _, n0, n1, _⟩ := tno_at hu
            rw [end_in hu hqp, Bool.or_eq_true, decide_eq_true_eq, decide_eq_true_eq] at hin
            unfold crossG
            rcases hin with e | e
            · have h1 : inW s (sg u 1) = true := hw.resolve_left (fun h => by rw [← e, l2] at h; cases h)
              rw [← e, fin, gin _ n1 h1]; rfl
            · have h1 : inW s (sg u 0) = true := hw.resolve_right (fun h => by rw [← e, l2] at h; cases h)
              rw [← e, fin, gin _ n0 h1]; rfl
          have hle : (row.filter fun u => decide (u ∈ s.asked ++ [t]) && strIn (farB s t) u).length ≤ (row.filter fun u => crossG g u && strIn (farB s t) u).length := by
            refine filter_le fun u hu hP => ?_
            rw [Bool.and_eq_true] at hP ⊢
            refine ⟨cross u (rok.sub u hu) ?_ hP.2, hP.2⟩
            have hm : u ∈ s.asked ++ [t] := by simpa using hP.1
            rcases List.mem_append.mp hm with hm | hm
            · exact H.ends u hm
            · rw [List.mem_singleton.mp hm]
              rcases fn with ⟨_, e1⟩ | ⟨_, e1⟩
              · right; rw [← e1]; exact l3
              · left; rw [← e1]; exact l3
          have farIn : strIn (farB s t) t = true := by
            rw [end_in htt hqp]
            rcases fn with ⟨e1, _⟩ | ⟨e1, _⟩ <;> rw [e1] <;> simp
          rw [cnt_add hna rok.nd ht, farIn] at hle
          have hcond := cond_iff.mp hc _ hq
          simp only [if_true] at hle
          omega
        · unfold inW at l3
          obtain ⟨wv, hwv⟩ := Option.isSome_iff_exists.mp l3
          have hA : askB s t = { s with asked := s.asked ++ [t], ways := setP s.ways (farB s t) (farB s t ++ wv) } := by
            unfold askB; rw [hlv, hwv]; simp [hz]
          rw [hA]
          unfold inW
          show ((setP _ _ _).lookup q).isSome = false
          rw [setP_lookup, if_neg hqf]
          exact ih q hq
      · have hA : askB s t = { s with asked := s.asked ++ [t], left := setP s.left (farB s t) (lv - 1) } := by
          unfold askB; rw [hlv]; simp [hz]
        rw [hA]
        exact ih q hq
/-- who burns: all but those in stuck groups -/
theorem dhar (rok : RowOk row) (h0 : 0 ≤ b ∧ 0 ≤ c ∧ 0 ≤ d) {q : Str} (hq : q ∈ pts4) : strIn q (stuckS (pv b c d) (exitsOf row) "") = !inW (burnIt row (burn0 b c d) row.length) q := by
  rw [stuck_in row _ hq]
  obtain ⟨x, H⟩ := Hist.it rok h0 row.length
  have G := GoodB.it (b := b) (c := c) (d := d) rok.sub row.length
  have hend := fire_end (b := b) (c := c) (d := d) rok
  have safe := fun g hg hc => stuck_safe (b := b) (c := c) (d := d) rok h0 (g := g) hg hc row.length
  generalize burnIt row (burn0 b c d) row.length = s at H G hend safe ⊢
  cases hw : inW s q with
  | true =>
    rw [Bool.not_true]
    rw [List.any_eq_false]
    intro g hg hh
    rw [Bool.and_eq_true] at hh
    have := safe g hg hh.1 q ((sgs_in hq hg).mpr hh.2)
    rw [hw] at this; cases this
  | false =>
    rw [Bool.not_false, List.any_eq_true]
    obtain ⟨g, hg, hgz⟩ := group_of (fun z => !inW s z) (by rw [G.a]; rfl) hq (by rw [hw]; rfl)
    refine ⟨g, hg, ?_⟩
    rw [Bool.and_eq_true]
    refine ⟨cond_iff.mpr fun r hr => ?_, by rw [hgz q hq, hw]; rfl⟩
    have hr3 := group_pts g hg r hr
    have hrw : inW s r = false := by
      have := (sgs_in (pts34 hr3) hg).mp hr
      rw [hgz r (pts34 hr3)] at this
      simpa using this
    obtain ⟨v, hv, hv0, hvc⟩ := H.left r hr3 hrw
    have hle : (row.filter fun u => crossG g u && strIn r u).length ≤ (row.filter fun u => decide (u ∈ s.asked) && strIn r u).length := by
      refine filter_le fun u hu hP => ?_
      rw [Bool.and_eq_true] at hP ⊢
      refine ⟨?_, hP.2⟩
      obtain ⟨_, _, _, _, _, _, n0, n1, _⟩ := tno_at (rok.sub u hu)
      have hx := hP.1
      unfold crossG at hx
      rw [hgz _ n0, hgz _ n1] at hx
      have hx2 : (inW s (sg u 0) != inW s (sg u 1)) = true := by
        revert hx; cases inW s (sg u 0) <;> cases inW s (sg u 1) <;> simp
      have hr2 := hend u hu
      unfold readyB at hr2
      rw [hx2, Bool.and_true] at hr2
      simpa using hr2
    omega
end
end Mine
end
section
open PySem PySem.Spec PySem.Calls PyProof.Rows PySem.W
namespace Mine
/-! the count by levels (Merino), by numbers -/
noncomputable def crM (i : Nat) : Nat := ([21, 38, 56, 51, 45, 30, 11] : List Nat).getD i 0
noncomputable def inM (f : Nat) : Nat := ([0, 21, 38, 56] : List Nat).getD f 0
noncomputable def grP (i : Nat) : List Nat := ([[1], [2], [3], [1, 2], [1, 3], [2, 3], [1, 2, 3]] : List (List Nat)).getD i []
noncomputable def bitN (m k : Nat) : Bool := m / 2 ^ k % 2 == 1
theorem bitN_eq (m k : Nat) : bitN m k = m.testBit k := by unfold bitN; rw [Nat.testBit_eq_decide_div_mod_eq]; by_cases h : m / 2 ^ k % 2 = 1 <;> simp [h]
noncomputable def cntN (m c f : Nat) : Nat := ((List.range 6).filter fun k => bitN m k && (bitN c k && bitN f k)).length
/-- patience by a number below 27 -/
noncomputable def paN (n : Nat) : Nat → Nat
  | 1 => n % 3
  | 2 => n / 3 % 3
  | _ => n / 9
noncomputable def sumN (n : Nat) : Nat := n % 3 + n / 3 % 3 + n / 9
noncomputable def conN (m n i : Nat) : Bool := (grP i).all fun f => decide (cntN m (crM i) (inM f) ≤ paN n f)
noncomputable def freeN (m n : Nat) : Bool := !((List.range 7).any fun i => conN m n i)
noncomputable def popN (m : Nat) : Nat := ((List.range 6).filter (bitN m)).length
noncomputable def lvlN (m j : Nat) : Nat := ((List.range 27).filter fun n => freeN m n && popN m == j + 3 + sumN n).length
noncomputable def hitN (c : Nat) : Bool := (List.range 7).all fun i => (List.range 6).any fun k => bitN c k && bitN (crM i) k
noncomputable def trmN (c : Nat) : Nat := if hitN c then 15 ^ (popN c - 3) else 0
noncomputable def sumG : List Nat → Nat → Nat
  | [], acc => trmN acc
  | k :: r, acc => sumG r acc + sumG r (acc + 2 ^ k)
theorem free_lvl : ((List.range 64).all fun m => (List.range 27).all fun n => !freeN m n || (decide (3 + sumN n ≤ popN m) && decide (popN m ≤ 6 + sumN n))) = true := by decide +kernel
theorem lvl_le : ((List.range 64).all fun m => (List.range 4).all fun j => decide (lvlN m j ≤ 15)) = true := by decide +kernel
theorem hit_pop : ((List.range 64).all fun c => !hitN c || decide (3 ≤ popN c)) = true := by decide +kernel
theorem merino : ((List.range 64).all fun m => sumG ((List.range 6).filter (bitN m)) 0 == lvlN m 0 + 16 * lvlN m 1 + 256 * lvlN m 2 + 4096 * lvlN m 3) = true := by decide +kernel
end Mine
end
section
open PySem PySem.Spec PySem.Calls PyProof.Rows PySem.W
namespace Mine
theorem tiesOf_len (m : Nat) (P : Str → Bool) : ((tiesOf m).filter P).length = ((List.range 6).filter fun k => bitN m k && P (tT k)).length := by
  unfold tiesOf
  rw [List.filter_map, List.length_map, List.filter_filter]
  congr 1
  refine List.filter_congr fun k _ => ?_
  rw [bitN_eq, Bool.and_comm]; rfl
theorem grp_tab : ∀ i : Fin 7, sgs (groups.getD (i : Nat) "") = (grP (i : Nat)).map (fun f => pts4.getD f "") ∧ (∀ f ∈ grP (i : Nat), pNo (pts4.getD f "") = f ∧ ∀ k : Fin 6, (crossG (groups.getD (i : Nat) "") (tT (k : Nat)) && strIn (pts4.getD f "") (tT (k : Nat))) = (bitN (crM (i : Nat)) (k : Nat) && bitN (inM f) (k : Nat))) ∧ ∀ k : Fin 6, crossG (groups.getD (i : Nat) "") (tT (k : Nat)) = bitN (crM (i : Nat)) (k : Nat) := by decide +kernel
theorem groups_idx : groups = (List.range 7).map fun i => groups.getD i "" := by decide +kernel
theorem cond_num {row : List Str} {m n : Nat} {pat : Str → Int} (hp : row.Perm (tiesOf m)) (hpat : ∀ f ∈ [1, 2, 3], pat (pts4.getD f "") = (paN n f : Int)) {i : Nat} (hi : i < 7) : condG row pat (groups.getD i "") = conN m n i := by
  obtain ⟨h1, h2, _⟩ := grp_tab ⟨i, hi⟩
  have hsub : ∀ f ∈ grP i, f ∈ [1, 2, 3] := by
    have : ∀ i : Fin 7, ∀ f ∈ grP (i : Nat), f ∈ [1, 2, 3] := by decide
    exact this ⟨i, hi⟩
  rw [Bool.eq_iff_iff, cond_iff]
  have h1' : sgs (groups.getD i "") = (grP i).map (fun f => pts4.getD f "") := h1
  rw [h1']
  unfold conN
  rw [List.all_eq_true]
  have key : ∀ f ∈ grP i, (((row.filter fun t => crossG (groups.getD i "") t && strIn (pts4.getD f "") t).length : Int) ≤ pat (pts4.getD f "") ↔ (decide (cntN m (crM i) (inM f) ≤ paN n f)) = true) := fun f hf => by
    have e : (row.filter fun t => crossG (groups.getD i "") t && strIn (pts4.getD f "") t).length = cntN m (crM i) (inM f) := by
      rw [(hp.filter _).length_eq, tiesOf_len]
      unfold cntN
      congr 1
      refine List.filter_congr fun k hk => ?_
      have := (h2 f hf).2 ⟨k, by simpa using hk⟩
      simp only at this
      rw [this]
    rw [e, hpat f (hsub f hf), decide_eq_true_eq]
    omega
  refine ⟨fun h f hf => (key f hf).mp (h _ (List.mem_map.mpr ⟨f, hf, rfl⟩)), fun h q hq => ?_⟩
  obtain ⟨f, hf, rfl⟩ := List.mem_map.mp hq
  exact (key f hf).mpr (h f hf)
theorem free_num {row : List Str} {m n : Nat} (hp : row.Perm (tiesOf m)) {b c d : Int} (hb : b = (n % 3 : Nat)) (hc : c = (n / 3 % 3 : Nat)) (hd : d = (n / 9 : Nat)) : (stuckS (pv b c d) (exitsOf row) "" == "") = freeN m n := by
  rw [stuck_nil]
  unfold freeN
  rw [groups_idx, List.any_map]
  congr 1
  rw [Bool.eq_iff_iff, List.any_eq_true, List.any_eq_true]
  have hpat : ∀ f ∈ [1, 2, 3], pv b c d (pts4.getD f "") = (paN n f : Int) := by
    have e : ∀ f ∈ [1, 2, 3], pv b c d (pts4.getD f "") = if f = 1 then b else if f = 2 then c else d := by
      intro f hf
      simp only [List.mem_cons, List.not_mem_nil, or_false] at hf
      rcases hf with rfl | rfl | rfl <;> rfl
    intro f hf
    rw [e f hf]
    simp only [List.mem_cons, List.not_mem_nil, or_false] at hf
    rcases hf with rfl | rfl | rfl
    · rw [if_pos rfl, hb]; rfl
    · rw [if_neg (by decide), if_pos rfl, hc]; rfl
    · rw [if_neg (by decide), if_neg (by decide), hd]; rfl
  refine exists_congr fun i => and_congr_right fun hi => ?_
  rw [← cond_num hp hpat (by simpa using hi)]; rfl
theorem row_len {row : List Str} {m : Nat} (hp : row.Perm (tiesOf m)) : row.length = popN m := by
  rw [hp.length_eq]
  have := tiesOf_len m fun _ => true
  rw [List.filter_eq_self.mpr fun _ _ => rfl] at this
  rw [this]
  unfold popN
  simp

/-! choices of ties -/
noncomputable def codeL : List Nat → Nat → Nat
  | [], _ => 0
  | k :: r, ch => (if ch % 2 = 1 then 2 ^ k else 0) + codeL r (ch / 2)
noncomputable def popL : List Nat → Nat → Nat
  | [], _ => 0
  | _ :: r, ch => (if ch % 2 = 1 then 1 else 0) + popL r (ch / 2)
noncomputable def hitL (i : Nat) : List Nat → Nat → Bool
  | [], _ => false
  | k :: r, ch => (ch % 2 == 1 && bitN (crM i) k) || hitL i r (ch / 2)
noncomputable def cutL (i : Nat) : List Nat → Nat
  | [] => 0
  | k :: r => (if bitN (crM i) k then 1 else 0) + 2 * cutL i r
theorem sum_double (f : Nat → Nat) : ∀ n, ((List.range (2 * n)).map f).sum = ((List.range n).map fun c => f (2 * c) + f (2 * c + 1)).sum
  | 0 => rfl
  | n + 1 => by
    have e : 2 * (n + 1) = 2 * n + 1 + 1 := by omega
    rw [e, List.range_succ, List.range_succ, List.range_succ (n := n)]
    simp only [List.map_append, List.map_cons, List.map_nil, List.sum_append, List.sum_cons, List.sum_nil, Nat.add_zero]
    rw [sum_double f n]; omega
theorem sum_codes : ∀ (l : List Nat) (acc : Nat), ((List.range (2 ^ l.length)).map fun ch => trmN (acc + codeL l ch)).sum = sumG l acc
  | [], acc => by simp [codeL, sumG]
  | k :: r, acc => by
    rw [List.length_cons, Nat.pow_succ, Nat.mul_comm, sum_double]
    have e1 : ∀ c, codeL (k :: r) (2 * c) = codeL r c := fun c => by
      show (if (2 * c) % 2 = 1 then 2 ^ k else 0) + codeL r ((2 * c) / 2) = _
      have h1 : (2 * c) % 2 = 0 := by omega
      have h2 : (2 * c) / 2 = c := by omega
      rw [h1, h2]; simp
    have e2 : ∀ c, codeL (k :: r) (2 * c + 1) = 2 ^ k + codeL r c := fun c => by
      show (if (2 * c + 1) % 2 = 1 then 2 ^ k else 0) + codeL r ((2 * c + 1) / 2) = _
      have h1 : (2 * c + 1) % 2 = 1 := by omega
      have h2 : (2 * c + 1) / 2 = c := by omega
      rw [h1, h2, if_pos rfl]
    have sm : ∀ (f g : Nat → Nat) (l : List Nat), (l.map fun c => f c + g c).sum = (l.map f).sum + (l.map g).sum := fun f g l => by
      induction l with
      | nil => rfl
      | cons a l ih => simp only [List.map_cons, List.sum_cons]; rw [ih]; omega
    rw [sm]
    rw [sumG, ← sum_codes r acc, ← sum_codes r (acc + 2 ^ k)]
    congr 2
    · exact List.map_congr_left fun c _ => by rw [e1]
    · exact List.map_congr_left fun c _ => by rw [e2, Nat.add_assoc]
theorem sumG_perm {l l' : List Nat} (h : l.Perm l') : ∀ acc, sumG l acc = sumG l' acc := by
  induction h with
  | nil => intro acc; rfl
  | cons a _ ih => intro acc; rw [sumG, sumG, ih, ih]
  | swap a b l =>
    intro acc
    rw [sumG, sumG, sumG, sumG, sumG, sumG]
    have : acc + 2 ^ a + 2 ^ b = acc + 2 ^ b + 2 ^ a := by omega
    rw [this]; omega
  | trans _ _ ih1 ih2 => intro acc; rw [ih1, ih2]
theorem mask_congr {f g : Nat → Bool} (h : ∀ i < 6, f i = g i) : maskOf f = maskOf g := by
  unfold maskOf
  exact congrArg List.sum (List.map_congr_left fun i hi => by have e := h i (by simpa using hi); simp only [e])
theorem mask_upd {f : Nat → Bool} {k : Nat} (hk : k < 6) (h : f k = false) (b : Bool) : maskOf (fun i => if i = k then b else f i) = (if b then 2 ^ k else 0) + maskOf f ∧
    ((List.range 6).filter fun i => if i = k then b else f i).length = (if b then 1 else 0) + ((List.range 6).filter f).length := by
  have e : ∀ b0 b1 b2 b3 b4 b5 b : Bool, ∀ k : Fin 6, [b0, b1, b2, b3, b4, b5].getD (k : Nat) false = false → maskOf (fun i => if i = (k : Nat) then b else [b0, b1, b2, b3, b4, b5].getD i false) = (if b then 2 ^ (k : Nat) else 0) + maskOf (fun i => [b0, b1, b2, b3, b4, b5].getD i false) ∧
      ((List.range 6).filter fun i => if i = (k : Nat) then b else [b0, b1, b2, b3, b4, b5].getD i false).length = (if b then 1 else 0) + ((List.range 6).filter fun i => [b0, b1, b2, b3, b4, b5].getD i false).length := by decide +kernel
  have hf : ∀ i < 6, [f 0, f 1, f 2, f 3, f 4, f 5].getD i false = f i := fun i hi => by
    match i, hi with
    | 0, _ => rfl
    | 1, _ => rfl
    | 2, _ => rfl
    | 3, _ => rfl
    | 4, _ => rfl
    | 5, _ => rfl
  have h2 := e (f 0) (f 1) (f 2) (f 3) (f 4) (f 5) b ⟨k, hk⟩ (by rw [hf k hk]; exact h)
  have c1 : maskOf (fun i => if i = k then b else [f 0, f 1, f 2, f 3, f 4, f 5].getD i false) = maskOf (fun i => if i = k then b else f i) := by
    exact mask_congr fun i hi => by rw [hf i hi]
  have c2 : maskOf (fun i => [f 0, f 1, f 2, f 3, f 4, f 5].getD i false) = maskOf f := by
    exact mask_congr fun i hi => by rw [hf i hi]
  have c3 : ((List.range 6).filter fun i => if i = k then b else [f 0, f 1, f 2, f 3, f 4, f 5].getD i false) = (List.range 6).filter fun i => if i = k then b else f i := List.filter_congr fun i hi => by rw [hf i (by simpa using hi)]
  have c4 : ((List.range 6).filter fun i => [f 0, f 1, f 2, f 3, f 4, f 5].getD i false) = (List.range 6).filter f := List.filter_congr fun i hi => by rw [hf i (by simpa using hi)]
  rw [c2] at h2
  refine ⟨c1.symm.trans h2.1, ?_⟩
  have := h2.2
  rw [c3, c4] at this
  exact this
theorem any_upd {f w : Nat → Bool} {k : Nat} (hk : k < 6) (h : f k = false) (b : Bool) : ((List.range 6).any fun i => (if i = k then b else f i) && w i) = ((b && w k) || (List.range 6).any fun i => f i && w i) := by
  rw [Bool.eq_iff_iff, Bool.or_eq_true, List.any_eq_true, List.any_eq_true]
  constructor
  · rintro ⟨i, hi, hh⟩
    by_cases e : i = k
    · subst e; left; simpa using hh
    · right; rw [if_neg e] at hh; exact ⟨i, hi, hh⟩
  · rintro (hh | ⟨i, hi, hh⟩)
    · exact ⟨k, by simpa using hk, by simpa using hh⟩
    · have e : i ≠ k := fun e => by rw [e, h] at hh; cases hh
      exact ⟨i, hi, by rw [if_neg e]; exact hh⟩
theorem code_is : ∀ (l : List Nat) (ch : Nat), l.Nodup → (∀ k ∈ l, k < 6) → ∃ f : Nat → Bool, codeL l ch = maskOf f ∧ (∀ i, i ∉ l → f i = false) ∧ popL l ch = ((List.range 6).filter f).length ∧ ∀ i, hitL i l ch = (List.range 6).any fun k => f k && bitN (crM i) k
  | [], ch, _, _ => ⟨fun _ => false, rfl, fun _ _ => rfl, rfl, fun i => by simp [hitL]⟩
  | k :: r, ch, hn, h6 => by
    rw [List.nodup_cons] at hn
    obtain ⟨f, h1, h2, h3, h4⟩ := code_is r (ch / 2) hn.2 fun j hj => h6 j (List.mem_cons_of_mem _ hj)
    have hk := h6 k List.mem_cons_self
    have hfk := h2 k hn.1
    obtain ⟨u1, u2⟩ := mask_upd hk hfk (ch % 2 == 1)
    refine ⟨fun i => if i = k then ch % 2 == 1 else f i, ?_, fun i hi => ?_, ?_, fun i => ?_⟩
    · rw [u1, codeL, h1]; simp
    · have e1 : i ≠ k := fun e => hi (by simp [e])
      have e2 : i ∉ r := fun e => hi (List.mem_cons_of_mem _ e)
      show (if i = k then _ else f i) = false
      rw [if_neg e1]; exact h2 i e2
    · rw [u2, popL, h3]; simp
    · rw [any_upd hk hfk, hitL, h4]
/-- a choice, by its number -/
theorem code_trm {l : List Nat} {ch : Nat} (hn : l.Nodup) (h6 : ∀ k ∈ l, k < 6) : codeL l ch < 64 ∧ popN (codeL l ch) = popL l ch ∧ hitN (codeL l ch) = (List.range 7).all fun i => hitL i l ch := by
  obtain ⟨f, h1, h2, h3, h4⟩ := code_is l ch hn h6
  obtain ⟨m1, m2⟩ := mask_bits f
  rw [h1]
  have hb : ∀ k < 6, bitN (maskOf f) k = f k := fun k hk => by rw [bitN_eq]; exact m2 k hk
  refine ⟨m1, ?_, ?_⟩
  · rw [h3]
    unfold popN
    congr 1
    exact List.filter_congr fun k hk => hb k (by simpa using hk)
  · have any_c : ∀ (l : List Nat) (f g : Nat → Bool), (∀ a ∈ l, f a = g a) → l.any f = l.any g := fun l f g h => by
      induction l with
      | nil => rfl
      | cons a l ih => rw [List.any_cons, List.any_cons, h a List.mem_cons_self, ih fun b hb => h b (List.mem_cons_of_mem _ hb)]
    have all_c : ∀ (l : List Nat) (f g : Nat → Bool), (∀ a ∈ l, f a = g a) → l.all f = l.all g := fun l f g h => by
      induction l with
      | nil => rfl
      | cons a l ih => rw [List.all_cons, List.all_cons, h a List.mem_cons_self, ih fun b hb => h b (List.mem_cons_of_mem _ hb)]
    unfold hitN
    refine all_c _ _ _ fun i hi => ?_
    rw [h4 i]
    exact any_c _ _ _ fun k hk => by rw [hb k (by simpa using hk)]
end Mine
end
section
open PySem PySem.Spec PySem.Calls PyProof.Rows PySem.W
namespace Mine
noncomputable def hitR (row : List Str) (ch : Nat) : Bool := (exitsOf row).all fun e => Builtin.bitAnd ch e.1 != 0
noncomputable def cntR (row : List Str) (ch : Nat) : Nat := ((List.range row.length).filter fun k => ((ch : Int).fdiv (2 ^ k)).fmod 2 == 1).length
noncomputable def trmR (row : List Str) (ch : Nat) : Int := if hitR row ch then 15 ^ (cntR row ch - 3) else 0
theorem tno_lt {row : List Str} (h : ∀ t ∈ row, t ∈ ties) : ∀ k ∈ row.map tNo, k < 6 := fun k hk => by
  obtain ⟨t, ht, rfl⟩ := List.mem_map.mp hk
  exact (tno_at (h t ht)).1
theorem tno_nd : ∀ {row : List Str}, (∀ t ∈ row, t ∈ ties) → row.Nodup → (row.map tNo).Nodup
  | [], _, _ => .nil
  | t :: r, h, hn => by
    rw [List.nodup_cons] at hn
    rw [List.map_cons, List.nodup_cons]
    refine ⟨fun hm => ?_, tno_nd (fun u hu => h u (List.mem_cons_of_mem _ hu)) hn.2⟩
    obtain ⟨u, hu, e⟩ := List.mem_map.mp hm
    have : u = t := by
      rw [← (tno_at (h u (List.mem_cons_of_mem _ hu))).2.1, ← (tno_at (h t List.mem_cons_self)).2.1, e]
    exact hn.1 (this ▸ hu)
theorem cross_num {t : Str} (ht : t ∈ ties) {i : Nat} (hi : i < 7) : crossG (groups.getD i "") t = bitN (crM i) (tNo t) := by
  obtain ⟨h6, hT, _⟩ := tno_at ht
  have := (grp_tab ⟨i, hi⟩).2.2 ⟨tNo t, h6⟩
  simp only [hT] at this
  exact this
theorem cut_eq {i : Nat} (hi : i < 7) : ∀ {row : List Str}, (∀ t ∈ row, t ∈ ties) → row.Nodup → cutG row (groups.getD i "") = cutL i (row.map tNo)
  | [], _, _ => rfl
  | t :: r, h, hn => by
    rw [List.nodup_cons] at hn
    have ih := cut_eq hi (row := r) (fun u hu => h u (List.mem_cons_of_mem _ hu)) hn.2
    unfold cutG waysG at ih ⊢
    rw [List.map_cons, cutL, ← ih, List.filter_cons, ← cross_num (h t List.mem_cons_self) hi]
    have e : ∀ l : List Str, (∀ u ∈ l, u ≠ t) → (l.map fun u => 2 ^ (t :: r).idxOf u).sum = 2 * (l.map fun u => 2 ^ r.idxOf u).sum := fun l hl => by
      induction l with
      | nil => rfl
      | cons a l ih2 =>
        rw [List.map_cons, List.map_cons, List.sum_cons, List.sum_cons, ih2 fun u hu => hl u (List.mem_cons_of_mem _ hu)]
        have ha : (t == a) = false := by simpa using Ne.symm (hl a List.mem_cons_self)
        rw [List.idxOf_cons, ha]
        simp only [cond_false]
        rw [Nat.pow_succ]; omega
    have e2 := e (r.filter (crossG (groups.getD i ""))) fun u hu q => hn.1 (q ▸ (List.mem_filter.mp hu).1)
    cases hc : crossG (groups.getD i "") t
    · simp only [Bool.false_eq_true, if_false]
      rw [e2]; omega
    · simp only [if_true, List.map_cons, List.sum_cons]
      rw [e2, List.idxOf_cons_self]
theorem land_ne (x y : Nat) : (x &&& y != 0) = ((x % 2 == 1 && y % 2 == 1) || (x / 2 &&& y / 2 != 0)) := by
  have h1 : (x &&& y) / 2 = x / 2 &&& y / 2 := Nat.and_div_two
  have h2 : (x &&& y) % 2 = 1 ↔ x % 2 = 1 ∧ y % 2 = 1 := Nat.and_mod_two_eq_one
  rw [Bool.eq_iff_iff, Bool.or_eq_true, Bool.and_eq_true, bne_iff_ne, bne_iff_ne, beq_iff_eq, beq_iff_eq, ← h1, ← h2]
  omega
theorem land_hit (i : Nat) : ∀ (l : List Nat) (ch : Nat), (ch &&& cutL i l != 0) = hitL i l ch
  | [], ch => by simp [cutL, hitL]
  | k :: r, ch => by
    rw [land_ne, cutL, hitL]
    have h1 : ((if bitN (crM i) k = true then 1 else 0) + 2 * cutL i r) % 2 = if bitN (crM i) k = true then 1 else 0 := by split <;> omega
    have h2 : ((if bitN (crM i) k = true then 1 else 0) + 2 * cutL i r) / 2 = cutL i r := by split <;> omega
    rw [h1, h2, land_hit i r (ch / 2)]
    cases bitN (crM i) k <;> simp
theorem hit_eq {row : List Str} (h : ∀ t ∈ row, t ∈ ties) (hn : row.Nodup) (ch : Nat) : hitR row ch = (List.range 7).all fun i => hitL i (row.map tNo) ch := by
  unfold hitR exitsOf
  rw [groups_idx, List.map_map, List.all_map]
  rw [Bool.eq_iff_iff, List.all_eq_true, List.all_eq_true]
  refine forall_congr' fun i => forall_congr' fun hi => ?_
  have hi7 : i < 7 := by simpa using hi
  rw [← land_hit, ← cut_eq hi7 h hn]
  show (Builtin.bitAnd (ch : Int) ((cutG row (groups.getD i "") : Nat) : Int) != 0) = true ↔ _
  rw [PyProof.Rows.bitAnd_pp (Int.natCast_nonneg _) (Int.natCast_nonneg _), Int.toNat_natCast, Int.toNat_natCast]
  rw [bne_iff_ne, bne_iff_ne]
  omega
theorem bit_int (ch k : Nat) : (((ch : Int).fdiv (2 ^ k)).fmod 2 == 1) = ch.testBit k := by
  have e1 : (2 ^ k : Int) = ((2 ^ k : Nat) : Int) := by push_cast; rfl
  rw [e1, Int.fdiv_eq_ediv_of_nonneg _ (Int.natCast_nonneg _), Int.fmod_eq_emod_of_nonneg _ (by decide)]
  rw [show ((ch : Int) / ((2 ^ k : Nat) : Int)) = ((ch / 2 ^ k : Nat) : Int) from rfl]
  rw [show (((ch / 2 ^ k : Nat) : Int) % 2) = ((ch / 2 ^ k % 2 : Nat) : Int) from rfl]
  rw [Nat.testBit_eq_decide_div_mod_eq, Bool.eq_iff_iff, beq_iff_eq, decide_eq_true_eq]
  omega
theorem pop_len : ∀ (l : List Nat) (ch : Nat), ((List.range l.length).filter fun k => ch.testBit k).length = popL l ch
  | [], ch => rfl
  | k :: r, ch => by
    rw [List.length_cons, List.range_succ_eq_map, List.filter_cons, List.filter_map, popL]
    have e : ((fun k => ch.testBit k) ∘ Nat.succ) = fun k => (ch / 2).testBit k := by
      funext k
      show ch.testBit (k + 1) = _
      rw [Nat.testBit_succ]
    have e0 : ch.testBit 0 = decide (ch % 2 = 1) := Nat.testBit_zero ch
    rw [e, e0, ← pop_len r (ch / 2)]
    by_cases c : ch % 2 = 1
    · simp [c]; omega
    · simp [c]
theorem cnt_eq (row : List Str) (ch : Nat) : cntR row ch = popL (row.map tNo) ch := by
  unfold cntR
  rw [← pop_len, List.length_map]
  congr 1
  exact List.filter_congr fun k _ => bit_int ch k
theorem trm_eq {row : List Str} (rok : RowOk row) (ch : Nat) : trmR row ch = (trmN (codeL (row.map tNo) ch) : Nat) ∧ (hitR row ch = true → 3 ≤ cntR row ch) := by
  obtain ⟨h1, h2, h3⟩ := code_trm (ch := ch) (tno_nd rok.sub rok.nd) (tno_lt rok.sub)
  have e1 : hitR row ch = hitN (codeL (row.map tNo) ch) := by rw [h3, hit_eq rok.sub rok.nd]
  have e2 : cntR row ch = popN (codeL (row.map tNo) ch) := by rw [h2, cnt_eq]
  refine ⟨?_, fun h => ?_⟩
  · unfold trmR trmN
    rw [e1, e2]
    split
    · push_cast; rfl
    · rfl
  · have := all_of hit_pop (a := codeL (row.map tNo) ch) (by simpa using h1)
    rw [← e1, h, Bool.not_true, Bool.false_or, decide_eq_true_eq, ← e2] at this
    exact this
theorem ties_no (m : Nat) : (tiesOf m).map tNo = (List.range 6).filter (bitN m) := by
  unfold tiesOf
  rw [List.map_map]
  have e : (List.range 6).filter (fun k => m.testBit k) = (List.range 6).filter (bitN m) := List.filter_congr fun k _ => (bitN_eq m k).symm
  rw [e]
  refine (List.map_congr_left fun k hk => ?_).trans (List.map_id _)
  have := (List.mem_filter.mp hk).1
  exact (tT_no (by simpa using this)).2
theorem isum_cast (l : List Nat) (f : Nat → Nat) : (l.map fun k => ((f k : Nat) : Int)).sum = (((l.map f).sum : Nat) : Int) := by
  induction l with
  | nil => rfl
  | cons a l ih => rw [List.map_cons, List.sum_cons, ih, List.map_cons, List.sum_cons]; push_cast; rfl
/-- the sum over all choices -/
theorem total_eq {row : List Str} {m : Nat} (rok : RowOk row) (hm : m < 64) (hp : row.Perm (tiesOf m)) : ((List.range (2 ^ row.length)).map (trmR row)).sum = ((lvlN m 0 + 16 * lvlN m 1 + 256 * lvlN m 2 + 4096 * lvlN m 3 : Nat) : Int) := by
  have e : (List.range (2 ^ row.length)).map (trmR row) = (List.range (2 ^ row.length)).map fun ch => ((trmN (codeL (row.map tNo) ch) : Nat) : Int) := List.map_congr_left fun ch _ => (trm_eq rok ch).1
  rw [e, isum_cast]
  congr 1
  have h := sum_codes (row.map tNo) 0
  rw [List.length_map] at h
  have e2 : ((List.range (2 ^ row.length)).map fun ch => trmN (codeL (row.map tNo) ch)) = (List.range (2 ^ row.length)).map fun ch => trmN (0 + codeL (row.map tNo) ch) := List.map_congr_left fun ch _ => by rw [Nat.zero_add]
  rw [e2, h, sumG_perm (hp.map tNo) 0, ties_no]
  have := all_of merino (a := m) (by simpa using hm)
  exact beq_iff_eq.mp this
end Mine
end
section
open PySem PySem.Spec PySem.Calls PyProof.Rows PySem.W
namespace Mine
/-! digits -/
noncomputable def apD (k : Nat) : UInt8 := apB.getD k 0
noncomputable def valL : List Nat → Nat
  | [] => 0
  | d :: r => d + 16 * valL r
noncomputable def isA (b : UInt8) : Bool := (#[65] : Array UInt8).contains b
theorem apD_A : isA (apD 0) = true ∧ ∀ k : Fin 15, isA (apD ((k : Nat) + 1)) = false := by decide +kernel
theorem apD_ne {d : Nat} (h : d < 16) (h0 : d ≠ 0) : isA (apD d) = false := by
  have := apD_A.2 ⟨d - 1, by omega⟩
  have e : ((⟨d - 1, by omega⟩ : Fin 15) : Nat) + 1 = d := by show d - 1 + 1 = d; omega
  rw [e] at this; exact this
theorem apOf_zero (k : Nat) : apOf k 0 = [] := by cases k <;> simp [apOf]
theorem digits_ap : ∀ (ls : List Nat), (∀ d ∈ ls, d < 16) → ∀ k, valL ls < 16 ^ k → apOf k (valL ls) = (ls.reverse.map apD).dropWhile isA
  | [], _, k, _ => by rw [valL, apOf_zero]; rfl
  | d :: r, h, k, hk => by
    have hd := h d List.mem_cons_self
    have ih := digits_ap r fun e he => h e (List.mem_cons_of_mem _ he)
    rw [valL] at hk ⊢
    rw [List.reverse_cons, List.map_append, List.dropWhile_append]
    have em : (d + 16 * valL r) / 16 = valL r := by omega
    have ed : (d + 16 * valL r) % 16 = d := by omega
    by_cases hm : d + 16 * valL r = 0
    · have h1 : d = 0 := by omega
      have h2 : valL r = 0 := by omega
      have h3 := ih 0 (by rw [h2]; decide)
      rw [h2, apOf_zero] at h3
      rw [hm, apOf_zero, ← h3, h1]
      simp [apD_A.1]
    · obtain ⟨k, rfl⟩ : ∃ j, k = j + 1 := by
        cases k with
        | zero => simp at hk; omega
        | succ k => exact ⟨k, rfl⟩
      rw [ap_step hm, em, ed]
      have hv : valL r < 16 ^ k := by rw [Nat.pow_succ] at hk; omega
      have h3 := ih k hv
      by_cases hz : valL r = 0
      · rw [hz, apOf_zero] at h3
        rw [hz, apOf_zero, ← h3]
        have hd0 : d ≠ 0 := by omega
        simp [apD_ne hd hd0]
        rfl
      · rw [← h3]
        have : (apOf k (valL r)).isEmpty = false := by
          obtain ⟨j, rfl⟩ : ∃ j, k = j + 1 := by
            cases k with
            | zero => simp at hv; omega
            | succ k => exact ⟨k, rfl⟩
          rw [ap_step hz]
          simp
        rw [this]; rfl
theorem val_hex : ∀ (n x : Nat), valL ((List.range n).map fun i => x / 16 ^ i % 16) = x % 16 ^ n
  | 0, x => by simp [valL, Nat.mod_one]
  | n + 1, x => by
    rw [List.range_succ_eq_map, List.map_cons, List.map_map, valL]
    have e : ((fun i => x / 16 ^ i % 16) ∘ Nat.succ) = fun i => (x / 16) / 16 ^ i % 16 := by
      funext i
      show x / 16 ^ (i + 1) % 16 = _
      rw [Nat.pow_succ, Nat.mul_comm, Nat.div_div_eq_div_mul]
    rw [e, val_hex n (x / 16), Nat.pow_succ, Nat.mul_comm (16 ^ n) 16, Nat.mod_mul]
    simp
theorem val_app : ∀ (a b : List Nat), valL (a ++ b) = valL a + 16 ^ a.length * valL b
  | [], b => by simp [valL]
  | d :: r, b => by
    rw [List.cons_append, valL, valL, val_app r b, List.length_cons, Nat.pow_succ, Nat.mul_add, Nat.mul_comm (16 ^ r.length) 16, Nat.mul_assoc]
    omega
/-- the word -/
noncomputable def digL (c0 c1 c2 c3 x : Nat) : List Nat := [c0, c1, c2, c3] ++ (List.range 16).map fun i => x / 16 ^ i % 16
theorem word_ap {c0 c1 c2 c3 x : Nat} (h0 : c0 ≤ 15) (h1 : c1 ≤ 15) (h2 : c2 ≤ 15) (h3 : c3 ≤ 15) (hx : x < 2 ^ 64) :
    (c0 + 16 * c1 + 256 * c2 + 4096 * c3) + 65536 * x < 16 ^ 20 ∧ apOf 20 ((c0 + 16 * c1 + 256 * c2 + 4096 * c3) + 65536 * x) = ((digL c0 c1 c2 c3 x).reverse.map apD).dropWhile isA := by
  have e : valL (digL c0 c1 c2 c3 x) = (c0 + 16 * c1 + 256 * c2 + 4096 * c3) + 65536 * x := by
    unfold digL
    rw [val_app, val_hex]
    have h64 : (2 : Nat) ^ 64 = 16 ^ 16 := by decide
    rw [Nat.mod_eq_of_lt (h64 ▸ hx)]
    simp only [valL, List.length_cons, List.length_nil]
    omega
  have hlt : (c0 + 16 * c1 + 256 * c2 + 4096 * c3) + 65536 * x < 16 ^ 20 := by
    have h64 : (2 : Nat) ^ 64 = 18446744073709551616 := by decide
    have h20 : (16 : Nat) ^ 20 = 1208925819614629174706176 := by decide
    rw [h64] at hx; rw [h20]; omega
  refine ⟨hlt, ?_⟩
  rw [← e]
  refine digits_ap _ (fun d hd => ?_) 20 (e ▸ hlt)
  unfold digL at hd
  rcases List.mem_append.mp hd with hd | hd
  · simp only [List.mem_cons, List.not_mem_nil, or_false] at hd
    omega
  · obtain ⟨i, _, rfl⟩ := List.mem_map.mp hd
    exact Nat.mod_lt _ (by decide)
theorem apOf_len : ∀ (k m : Nat), (apOf k m).length ≤ k
  | 0, _ => by simp [apOf]
  | k + 1, m => by
    rw [apOf]; split
    · simp
    · have := apOf_len k (m / 16)
      rw [List.length_append]; simp; exact this
end Mine
end
section
open PySem PySem.Spec PySem.Calls PyProof.Rows PySem.W
namespace Mine
variable {p : Program} {w : World} {K : Frag} {n : Nat} {env : Env} {σ : Store} {N N' : Store → Prop} {R : D → Prop} {rest : List Stmt}
/-! the hosts -/
noncomputable def udmV (a b : Str) : Option Bool := match ipOut (Txt.lower a), ipOut (Txt.lower b) with
  | some ia, some ib => if (Txt.lower a).length ≤ 1000 ∧ (Txt.lower b).length ≤ 1000 then some (udmL (Txt.lower a) (Txt.lower b) ia ib) else none
  | _, _ => none
theorem udmV_fn (kx : KX K) (kr : KR K) {a b : Str} {r : Bool} (h : udmV a b = some r) : Fn p w K (n + 2) 148 [.str a, .str b] (.bool r) := by
  unfold udmV at h
  cases ha : ipOut (Txt.lower a) with
  | none => rw [ha] at h; cases h
  | some ia =>
    cases hb : ipOut (Txt.lower b) with
    | none => rw [ha, hb] at h; cases h
    | some ib =>
      rw [ha, hb] at h
      simp only at h
      split at h
      · rename_i hz
        cases h
        exact udm_fn kx kr ha hb hz.1 hz.2
      · cases h
noncomputable def hostK (k : Nat) : Str := hostTxt ((wy k).getD "")
noncomputable def isSuf (a b : List Nat) : Bool := a.length ≤ b.length && b.drop (b.length - a.length) == a
/-! small letters, of ASCII -/
noncomputable def lowC (c : Nat) : Nat := if 65 ≤ c && c ≤ 90 then c + 32 else c
noncomputable def lowA (x : Str) : Str := ⟨(x.cps.toList.map lowC).toArray⟩
theorem low_tab : ∀ c : Fin 128, Unicode.lowerOf (c : Nat) = [lowC (c : Nat)] := by decide +kernel
theorem lower_A {x : Str} (h : x.cps.toList.all (fun c => decide (c < 128)) = true) : Txt.lower x = lowA x := by
  unfold Txt.lower lowA placed
  congr 1
  have e : (x.cps.mapIdx fun i c => (Unicode.lowerAt x.cps i).toArray) = x.cps.map fun c => #[lowC c] := by
    refine Array.ext (by simp) fun i h1 h2 => ?_
    have hi : i < x.cps.size := by simpa using h1
    have hc : x.cps[i] < 128 := by
      have := all_of h (a := x.cps[i]) (Array.mem_toList_iff.mpr (Array.getElem_mem hi))
      simpa using this
    rw [Array.getElem_mapIdx, Array.getElem_map]
    have hl : Unicode.lowerAt x.cps i = [lowC x.cps[i]] := by
      unfold Unicode.lowerAt
      rw [Array.getElem?_eq_getElem hi]
      simp only
      have : (x.cps[i] == 0x3A3) = false := by simp; omega
      rw [this]
      exact low_tab ⟨x.cps[i], hc⟩
    rw [hl]
  rw [e]
  apply Array.toList_inj.mp
  rw [Array.toList_flatten, Array.toList_map, List.map_map]
  induction x.cps.toList with
  | nil => rfl
  | cons a l ih => simp only [List.map_cons, List.flatten_cons]; rw [ih]; rfl
theorem host_low : ∀ k : Fin 16, Txt.lower (Txt.upper (hostK ((k : Nat) + 1))) = hostK ((k : Nat) + 1) ∧ Txt.lower ("." ++ hostK ((k : Nat) + 1)) = "." ++ hostK ((k : Nat) + 1) ∧ ipOut (hostK ((k : Nat) + 1)) = some false ∧ ipOut ("." ++ hostK ((k : Nat) + 1)) = some false ∧ (hostK ((k : Nat) + 1)).length ≤ 500 ∧ (Txt.upper (hostK ((k : Nat) + 1))).length ≤ 500 := by decide +kernel
theorem host_end : ∀ k : Fin 16, ∀ j : Fin 16, Txt.endswith (hostK ((k : Nat) + 1)) ("." ++ hostK ((j : Nat) + 1)) = isSuf (wpts ((j : Nat) + 1)) ((wpts ((k : Nat) + 1)).drop 1) := by decide +kernel
theorem host_dot : ∀ j : Fin 16, Txt.startswith ("." ++ hostK ((j : Nat) + 1)) "." = true := by decide +kernel
theorem way_rest : ∀ k : Fin 16, (strCut ((wy ((k : Nat) + 1)).getD "") (some 1) none).length ≤ 100 ∧ ∀ q ∈ pts4, strIn q (strCut ((wy ((k : Nat) + 1)).getD "") (some 1) none) = ((wpts ((k : Nat) + 1)).drop 1).contains (pNo q) := by decide +kernel
theorem cfg_suf : (cfgs.all fun x => (List.range 4).all fun q => (List.range 4).all fun o => cAt x q == 0 || cAt x o == 0 || (isSuf (wpts (cAt x o)) ((wpts (cAt x q)).drop 1) == ((wpts (cAt x q)).drop 1).contains o)) = true := by decide +kernel
theorem udm_pair {x : Cfg} (hx : x ∈ cfgs) {q o : Str} (hq : q ∈ pts4) (ho : o ∈ pts4) {v u : Str} (hv : cLk x q = some v) (hu : cLk x o = some u) : udmV (Txt.upper (hostTxt v)) ("." ++ hostTxt u) = some (strIn o (strCut v (some 1) none)) := by
  obtain ⟨q4, hq2⟩ := pts_at hq
  obtain ⟨o4, ho2⟩ := pts_at ho
  have k16 := cAt_le hx q4
  have j16 := cAt_le hx o4
  have hv' : wy (cAt x (pNo q)) = some v := hv
  have hu' : wy (cAt x (pNo o)) = some u := hu
  have hsuf := all_of (all_of (all_of cfg_suf hx) (a := pNo q) (by simpa using q4)) (a := pNo o) (by simpa using o4)
  cases hk : cAt x (pNo q) with
  | zero => rw [hk] at hv'; cases hv'
  | succ k =>
    cases hj : cAt x (pNo o) with
    | zero => rw [hj] at hu'; cases hu'
    | succ j =>
      rw [hk] at hv' hsuf k16
      rw [hj] at hu' hsuf j16
      have hK : hostTxt v = hostK (k + 1) := by unfold hostK; rw [hv']; rfl
      have hJ : hostTxt u = hostK (j + 1) := by unfold hostK; rw [hu']; rfl
      obtain ⟨a1, a2, a3, a4, a5, a6⟩ := host_low ⟨k, by omega⟩
      obtain ⟨b1, b2, b3, b4, b5, b6⟩ := host_low ⟨j, by omega⟩
      have e1 := host_end ⟨k, by omega⟩ ⟨j, by omega⟩
      have e2 := host_dot ⟨j, by omega⟩
      have e3 := (way_rest ⟨k, by omega⟩).2 o ho
      simp only at a1 a2 a3 a4 a5 a6 b1 b2 b3 b4 b5 b6 e1 e2 e3
      rw [hv', Option.getD_some] at e3
      have hs2 : isSuf (wpts (j + 1)) ((wpts (k + 1)).drop 1) = ((wpts (k + 1)).drop 1).contains (pNo o) := by simpa using hsuf
      unfold udmV
      rw [hK, hJ, a1, b2, a3, b4]
      simp only
      rw [if_pos ⟨by omega, by rw [str_len_append]; have : ("." : Str).length = 1 := rfl; omega⟩]
      unfold udmL
      rw [e3, ← hs2, ← e1]
      simp only [Bool.or_self, Bool.false_eq_true, if_false]
      rw [e2]; rfl
theorem udmV_of {a b a' b' : Str} {ia ib : Bool} (h1 : Txt.lower a = a') (h2 : Txt.lower b = b') (h3 : ipOut a' = some ia) (h4 : ipOut b' = some ib) (h5 : a'.length ≤ 1000) (h6 : b'.length ≤ 1000) : udmV a b = some (udmL a' b' ia ib) := by
  unfold udmV
  rw [h1, h2, h3, h4]
  simp only
  rw [if_pos ⟨h5, h6⟩]
noncomputable def ascii (x : Str) : Bool := x.cps.toList.all fun c => decide (c < 128)
theorem lower_to {x y : Str} (h : (ascii x && lowA x == y) = true) : Txt.lower x = y := by
  rw [Bool.and_eq_true] at h
  rw [lower_A h.1]; exact beq_iff_eq.mp h.2
theorem low_one : ∀ k : Fin 16, (ascii (hostK ((k : Nat) + 1) ++ ".z") && lowA (hostK ((k : Nat) + 1) ++ ".z") == hostK ((k : Nat) + 1) ++ ".z") = true ∧ (ascii (hostK ((k : Nat) + 1)) && lowA (hostK ((k : Nat) + 1)) == hostK ((k : Nat) + 1)) = true ∧
    (ascii (hostK ((k : Nat) + 1) ++ ".40") && lowA (hostK ((k : Nat) + 1) ++ ".40") == hostK ((k : Nat) + 1) ++ ".40") = true ∧ (ascii (hostK ((k : Nat) + 1) ++ "4") && lowA (hostK ((k : Nat) + 1) ++ "4") == hostK ((k : Nat) + 1) ++ "4") = true ∧
    (ascii (hostK ((k : Nat) + 1) ++ ".4.z") && lowA (hostK ((k : Nat) + 1) ++ ".4.z") == hostK ((k : Nat) + 1) ++ ".4.z") = true ∧ (hostK ((k : Nat) + 1) ++ ".4.z").length ≤ 500 := by decide +kernel
theorem low_up : ∀ k : Fin 16, (ascii (Txt.upper (hostK ((k : Nat) + 1)) ++ ".40") && lowA (Txt.upper (hostK ((k : Nat) + 1)) ++ ".40") == hostK ((k : Nat) + 1) ++ ".40") = true ∧ (ascii ("." ++ Txt.upper (hostK ((k : Nat) + 1))) && lowA ("." ++ Txt.upper (hostK ((k : Nat) + 1))) == "." ++ hostK ((k : Nat) + 1)) = true := by decide +kernel
theorem ip_one : ∀ k : Fin 16, ipOut (hostK ((k : Nat) + 1) ++ ".z") = some false ∧ ipOut (hostK ((k : Nat) + 1) ++ ".40") = some true ∧ ipOut (hostK ((k : Nat) + 1) ++ "4") = some false ∧ ipOut (hostK ((k : Nat) + 1) ++ ".4.z") = some false := by decide +kernel
theorem low_cst : (ascii ".a.local" && lowA ".a.local" == ".a.local") = true ∧ (ascii "a.local" && lowA "a.local" == "a.local") = true ∧ (ascii ".a.local.40" && lowA ".a.local.40" == ".a.local.40") = true ∧ (ascii ".a.local4" && lowA ".a.local4" == ".a.local4") = true ∧ (ascii ".4.Z" && lowA ".4.Z" == ".4.z") = true := by decide +kernel
theorem ip_cst : ipOut ".a.local" = some false ∧ ipOut "a.local" = some false ∧ ipOut ".a.local.40" = some true ∧ ipOut ".a.local4" = some false ∧ ipOut ".4.z" = some false := by decide +kernel
theorem end_one : ∀ k : Fin 16, udmL (hostK ((k : Nat) + 1) ++ ".z") ".a.local" false false = false ∧ udmL (hostK ((k : Nat) + 1)) "a.local" false false = ((k : Nat) == 0) ∧ udmL (hostK ((k : Nat) + 1) ++ ".40") ".a.local.40" true true = false ∧
    udmL (hostK ((k : Nat) + 1) ++ ".40") (hostK ((k : Nat) + 1) ++ ".40") true true = true ∧ udmL (hostK ((k : Nat) + 1) ++ "4") ".a.local4" false false = ((k : Nat) != 0) ∧
    udmL ("." ++ hostK ((k : Nat) + 1)) ("." ++ hostK ((k : Nat) + 1)) false false = true ∧ udmL (hostK ((k : Nat) + 1) ++ ".4.z") ".4.z" false false = true := by decide +kernel
theorem udm_one (k : Fin 16) : udmV (hostK ((k : Nat) + 1) ++ ".z") ".a.local" = some false ∧ udmV (hostK ((k : Nat) + 1)) "a.local" = some ((k : Nat) == 0) ∧ udmV (hostK ((k : Nat) + 1) ++ ".40") ".a.local.40" = some false ∧
    udmV (hostK ((k : Nat) + 1) ++ ".40") (Txt.upper (hostK ((k : Nat) + 1)) ++ ".40") = some true ∧ udmV (hostK ((k : Nat) + 1) ++ "4") ".a.local4" = some ((k : Nat) != 0) ∧
    udmV ("." ++ hostK ((k : Nat) + 1)) ("." ++ Txt.upper (hostK ((k : Nat) + 1))) = some true ∧ udmV (hostK ((k : Nat) + 1) ++ ".4.z") ".4.Z" = some true := by
  obtain ⟨l1, l2, l3, l4, l5, l6⟩ := low_one k
  obtain ⟨u1, u2⟩ := low_up k
  obtain ⟨i1, i2, i3, i4⟩ := ip_one k
  obtain ⟨h1, h2, h3, h4, h5, h6⟩ := host_low k
  obtain ⟨c1, c2, c3, c4, c5⟩ := low_cst
  obtain ⟨d1, d2, d3, d4, d5⟩ := ip_cst
  obtain ⟨e1, e2, e3, e4, e5, e6, e7⟩ := end_one k
  have len : ∀ y : Str, y.length ≤ 10 → (hostK ((k : Nat) + 1) ++ y).length ≤ 1000 := fun y hy => by rw [str_len_append]; omega
  have len' : ("." ++ hostK ((k : Nat) + 1)).length ≤ 1000 := by rw [str_len_append]; have : ("." : Str).length = 1 := rfl; omega
  refine ⟨?_, ?_, ?_, ?_, ?_, ?_, ?_⟩
  · rw [udmV_of (lower_to l1) (lower_to c1) i1 d1 (len _ (by decide)) (by decide), e1]
  · rw [udmV_of (lower_to l2) (lower_to c2) h3 d2 (by omega) (by decide), e2]
  · rw [udmV_of (lower_to l3) (lower_to c3) i2 d3 (len _ (by decide)) (by decide), e3]
  · rw [udmV_of (lower_to l3) (lower_to u1) i2 i2 (len _ (by decide)) (len _ (by decide)), e4]
  · rw [udmV_of (lower_to l4) (lower_to c4) i3 d4 (len _ (by decide)) (by decide), e5]
  · rw [udmV_of h2 (lower_to u2) h4 h4 len' len', e6]
  · rw [udmV_of (lower_to l5) (lower_to c5) i4 d5 (len _ (by decide)) (by decide), e7]
theorem way_head : (cfgs.all fun x => (List.range 4).all fun q => cAt x q == 0 || ((cAt x q == 1) == (q == 0))) = true := by decide +kernel
end Mine
end
section
open PySem PySem.Spec PySem.Calls PyProof.Rows PySem.W
namespace Mine
variable {p : Program} {w : World} {K : Frag} {n : Nat} {env : Env} {σ : Store} {N N' : Store → Prop} {R : D → Prop} {rest : List Stmt}
noncomputable def lawBody : List Stmt := match fLaw.body with
  | .stmts b => b
  | _ => []
theorem bits2 : (Builtin.Int.intBits 2 : Int) = 2 ∧ (Builtin.Int.intBits 16 : Int) = 5 ∧ (Builtin.Int.intBits 15 : Int) = 4 ∧ (Builtin.Int.intBits 12 : Int) = 4 ∧ (Builtin.Int.intBits 4 : Int) = 3 ∧ Builtin.Int.intBits 65536 ≤ 64 := by decide +kernel
theorem pow_int (a : Int) {k : Nat} (hk : k ≤ 1000) (hb : (Builtin.Int.intBits a : Int) ≤ 100) : BinOk p w K n .Pow (.int a) (.int (k : Nat)) (.int (a ^ k)) := by
  have h := BinOk.powI (p := p) (w := w) (K := K) (n := n) (a := a) (b := (k : Int)) (Int.natCast_nonneg k) (by
    have h1 : (Builtin.Int.intBits a : Int) * (k : Int) ≤ 100 * 1000 := Int.mul_le_mul hb (by omega) (Int.natCast_nonneg _) (by decide)
    have h2 : (100 * 1000 : Int) ≤ 2 ^ 27 := by decide
    omega)
  simpa using h
theorem range_15 : Builtin.Range.rangeSize 15 (-1) (-1) = (16 : Nat) ∧ Builtin.Range.small 15 (-1) (-1) = true := by decide +kernel
theorem dig_rev (l0 l1 l2 l3 x : Nat) : ((List.range 16).map fun i => x / 16 ^ (15 - i) % 16) ++ [l3, l2, l1, l0] = (digL l0 l1 l2 l3 x).reverse := by
  unfold digL
  rw [List.reverse_append]
  rfl
theorem log_16 (k : Nat) (hk : k ≤ 15) : ((16 : Int) ^ k).natAbs.log2 < 9000 := by
  have : ∀ k : Fin 16, ((16 : Int) ^ (k : Nat)).natAbs.log2 < 9000 := by decide +kernel
  exact this ⟨k, by omega⟩
theorem hex_int {x k : Nat} : (((x : Int).fdiv ((16 : Int) ^ k)).fmod 16) = ((x / 16 ^ k % 16 : Nat) : Int) := by
  have e1 : (16 ^ k : Int) = ((16 ^ k : Nat) : Int) := by push_cast; rfl
  rw [e1, Int.fdiv_eq_ediv_of_nonneg _ (Int.natCast_nonneg _), Int.fmod_eq_emod_of_nonneg _ (by decide)]
  rfl
theorem ap_pick2 {d : Nat} (h : d < 16) : KBy.picked apB.toArray (some (d : Int)) (some ((d : Int) + 1)) = #[apD d] := ap_pick ⟨d, h⟩
theorem law_word (kp : KP p K) {L : Addr} {c0 c1 c2 c3 : Int} {l0 l1 l2 l3 : Nat} {a : Addr} (b0 : l0 ≤ 15) (b1 : l1 ≤ 15) (b2 : l2 ≤ 15) (b3 : l3 ≤ 15)
    (hc : σ.lookup ("cells" : Str) = some (.val (.list [.int c0, .int c1, .int c2, .int c3]))) (ht : σ.lookup ("total" : Str) = some (.val (.int ((l0 + 16 * l1 + 256 * l2 + 4096 * l3 : Nat) : Int)))) (hk : σ.lookup ("counts" : Str) = some (.lst a [.int l0, .int l1, .int l2, .int l3])) :
    X p w K (n + 3) (callEnvC fLaw L 194) σ (lawBody.drop 20) N (· = .bool true) := by
  have h64 : ((2 : Int) ^ 64) ≠ 0 := by decide
  have m0 := Int.fmod_nonneg_of_pos c1 (b := (2 : Int) ^ 64) (by decide)
  have m1 := Int.fmod_lt_of_pos c1 (b := (2 : Int) ^ 64) (by decide)
  obtain ⟨x, hx⟩ : ∃ x : Nat, c1.fmod ((2 : Int) ^ 64) = x := ⟨(c1.fmod ((2 : Int) ^ 64)).toNat, by omega⟩
  rw [hx] at m0 m1
  have hx64 : x < 2 ^ 64 := by
    have e : ((2 : Int) ^ 64) = ((2 ^ 64 : Nat) : Int) := by decide +kernel
    rw [e] at m1; exact Int.ofNat_lt.mp m1
  have hz6 : ∀ {m : Nat}, m ≤ 1000 → m ≤ sizeLine := fun h => Nat.le_trans h (by decide)
  obtain ⟨bb2, bb16, _, _, _, bb65⟩ := bits2
  refine X.assign (d := .int x) (Ev.to (d := .int (c1.fmod ((2 : Int) ^ 64))) (by rw [hx]) (Ev.bin (Ev.v (Ev.sub (EvV.name hc rfl) (Ev.v .int) (IdxOk.list (by decide) (by decide) rfl) fun _ _ => rfl)) (Ev.v (Ev.bin (Ev.v .int) (Ev.v .int) (pow_int 2 (k := 64) (by decide) (by rw [bb2]; decide)))) (.modI h64))) (.inr rfl) (by decide) rfl ?_
  refine X.assign (d := .bytes #[]) .bytes (.inl rfl) (by decide) rfl ?_
  have hx1 : (put (put σ "more" (.val (.int x))) "word" (.val (.bytes #[]))).lookup ("more" : Str) = some (.val (.int x)) := lkN lkE
  have hw1 : (put (put σ "more" (.val (.int x))) "word" (.val (.bytes #[]))).lookup ("word" : Str) = some (.val (.bytes #[])) := lkE
  have ht1 : (put (put σ "more" (.val (.int x))) "word" (.val (.bytes #[]))).lookup ("total" : Str) = some (.val (.int ((l0 + 16 * l1 + 256 * l2 + 4096 * l3 : Nat) : Int))) := lkN (lkN ht)
  have hk1 : (put (put σ "more" (.val (.int x))) "word" (.val (.bytes #[]))).lookup ("counts" : Str) = some (.lst a [.int l0, .int l1, .int l2, .int l3]) := lkN (lkN hk)
  generalize put (put σ "more" (.val (.int x))) "word" (.val (.bytes #[])) = S at hx1 hw1 ht1 hk1 ⊢
  generalize hdig : (digL l0 l1 l2 l3 x).reverse = dg
  have hdl : dg.length = 20 := by rw [← hdig, List.length_reverse]; unfold digL; rw [List.length_append, List.length_map, List.length_range]; rfl
  have hd16 : ∀ d ∈ dg, d < 16 := fun d hd => by
    rw [← hdig, ← dig_rev] at hd
    rcases List.mem_append.mp hd with hd | hd
    · obtain ⟨i, _, rfl⟩ := List.mem_map.mp hd
      exact Nat.mod_lt _ (by decide)
    · simp only [List.mem_cons, List.not_mem_nil, or_false] at hd
      omega
  refine X.for (tp := false) (ds := dg.map fun d => .int (d : Nat)) (f := fun d σ => put σ "count" (.val d)) (fun i σ' => σ'.lookup ("word" : Str) = some (.val (.bytes ((dg.take i).map apD).toArray)) ∧ σ'.lookup ("more" : Str) = some (.val (.int x)) ∧ σ'.lookup ("total" : Str) = some (.val (.int ((l0 + 16 * l1 + 256 * l2 + 4096 * l3 : Nat) : Int))))
    (EvW.list ?_) (cnOk (by decide)) (fun d _ => Asg.name (.inl rfl) (by decide)) .name ⟨by simpa using hw1, hx1, ht1⟩ ?_ ?_
  · refine Ev.to (d := .list (((List.range 16).map fun i => D.int ((x / 16 ^ (15 - i) % 16 : Nat) : Int)) ++ [.int l3, .int l2, .int l1, .int l0])) ?_ (Ev.bin (Ev.v (Ev.to ?_ (Ev.comp (xs := List.range 16) (enc := fun i => .int (15 + ((i : Nat) : Int) * (-1))) (cl := [("more", L + 5)]) (caps := ["more"]) (keep := fun _ => true) (g := fun i => .int ((x / 16 ^ (15 - i) % 16 : Nat) : Int)) (binds := fun i => [("k", .int (15 + ((i : Nat) : Int) * (-1)))]) (tp := false)
        { kind := rfl, names := by decide, clos := rfl, cap := ?_, asg := fun C i hi => AsgC.name rfl rfl (by decide), tests := fun C i hi => EvT.nil, elt := ?_, size := by rw [List.length_range]; exact hz6 (by decide) } (EvW.range (a := 15) (b := -1) (c := -1) (m := 16) (EvR.three (EvG.b kp.kx 6) (.cons .int (.cons (Ev.neg .int) (EvLs.one (Ev.neg .int)))) (by decide) (by decide) rfl) range_15.1 range_15.2) .name)))
        (Ev.v (Ev.to (d' := .list [.int l3, .int l2, .int l1, .int l0]) ?_ (Ev.rev (EvV.name hk1 rfl) (Ev.neg .int) (show (4 : Nat) ≤ sizeLine by decide)))) (BinOk.addL ?_))
    · rw [← hdig, ← dig_rev]
      simp
    · rw [filter_tt]
    · intro C y hy
      obtain rfl : y = ("more" : Str) := by simpa using hy
      exact ⟨L + 5, .inl rfl, rfl, .inl rfl, rfl⟩
    · intro C i hi _
      have hi16 : i < 16 := by simpa using hi
      have ek : (15 + ((i : Nat) : Int) * (-1)) = ((15 - i : Nat) : Int) := by omega
      rw [ek, ← hex_int]
      refine Ev.bin (Ev.v (Ev.bin (Ev.v (Ev.name (lkC hx1 rfl (by decide)))) (Ev.v (Ev.bin (Ev.v .int) (Ev.v (Ev.name lkB)) (pow_int 16 (k := 15 - i) (by omega) (by rw [bb16]; decide)))) (.fdivL (Int.pow_ne_zero (by decide)) (log_16 _ (by omega))))) (Ev.v .int) (.modI (by decide))
    · rfl
    · rw [List.length_map, List.length_range]; exact hz6 (show (20 : Nat) ≤ 1000 by decide)
  · rintro i dd σ' hd ⟨h1, h2, h3⟩
    rw [List.getElem?_map] at hd
    cases hg : dg[i]? with
    | none => rw [hg] at hd; cases hd
    | some d =>
    rw [hg] at hd
    obtain rfl : dd = .int (d : Nat) := (Option.some.inj hd).symm
    have hdm : d < 16 := hd16 d (List.mem_of_getElem? hg)
    have htk : dg.take (i + 1) = dg.take i ++ [d] := by rw [List.take_add_one, hg]; rfl
    have hp := ap_pick2 hdm
    have hl : ((dg.take i).map apD).length ≤ 20 := by rw [List.length_map, List.length_take, hdl]; exact Nat.min_le_right _ _
    refine X.assign (d := .bytes (((dg.take i).map apD).toArray ++ #[apD d])) ?_ (.inl rfl) (by decide) rfl (X.nil ⟨?_, lkN (lkN h2), lkN (lkN h3)⟩)
    · rw [← hp]
      refine Ev.bin (Ev.v (Ev.name (lkN h1))) (Ev.v (Ev.cutB .bytes (.some (Ev.name lkE)) (.some (Ev.bin (Ev.v (Ev.name lkE)) (Ev.v .int) .addI)) (by decide))) (.addB ?_)
      have e2 : (KBy.picked ([65, 66, 67, 68, 69, 70, 71, 72, 73, 74, 75, 76, 77, 78, 79, 80] : List UInt8).toArray (some (d : Int)) (some ((d : Int) + 1))).size = 1 := congrArg Array.size hp
      have e3 : ((dg.take i).map apD).toArray.size ≤ 20 := by rw [List.size_toArray]; exact hl
      exact Nat.le_trans (Nat.add_le_add e3 (Nat.le_of_eq e2)) (by decide)
    · rw [lkE, htk, List.map_append]; simp
  · rintro σ' ⟨h1, h2, h3⟩
    have hL : dg.take (dg.map fun d => D.int (d : Nat)).length = dg := by rw [List.length_map, List.take_length]
    rw [hL] at h1
    obtain ⟨w1, w2⟩ := word_ap b0 b1 b2 b3 hx64
    rw [hdig] at w2
    have hV : ((l0 + 16 * l1 + 256 * l2 + 4096 * l3 : Nat) : Int) + 65536 * (x : Int) = ((l0 + 16 * l1 + 256 * l2 + 4096 * l3 + 65536 * x : Nat) : Int) := by omega
    have hV' : -((l0 + 16 * l1 + 256 * l2 + 4096 * l3 : Nat) : Int) - 65536 * (x : Int) = -((l0 + 16 * l1 + 256 * l2 + 4096 * l3 + 65536 * x : Nat) : Int) := by omega
    generalize hVn : l0 + 16 * l1 + 256 * l2 + 4096 * l3 + 65536 * x = V at w1 w2 hV hV'
    have n1 : (((V : Nat) : Int)).natAbs = V := Int.natAbs_natCast V
    have n2 : (-((V : Nat) : Int)).natAbs = V := by rw [Int.natAbs_neg, n1]
    have f1 : Fn p w K (n + 3) 155 [.int (V : Nat)] (.bytes (apOf 20 V).toArray) := by
      have := intAP_fn (p := p) (w := w) (n := n + 2) kp.kx (i := ((V : Nat) : Int)) (k := 20) (by rw [n1]; exact w1) (Nat.le_trans (apOf_len _ _) (by decide))
      rw [n1] at this; exact this
    have f2 : Fn p w K (n + 3) 155 [.int (-((V : Nat) : Int))] (.bytes (apOf 20 V).toArray) := by
      have := intAP_fn (p := p) (w := w) (n := n + 2) kp.kx (i := -((V : Nat) : Int)) (k := 20) (by rw [n2]; exact w1) (Nat.le_trans (apOf_len _ _) (by decide))
      rw [n2] at this; exact this
    have hmul : BinOk p w K (n + 3) .Mult (.int 65536) (.int (x : Int)) (.int (65536 * (x : Int))) := .mulI (IntMulOk.of_left bb65)
    refine X.ret (Ev.to (d := .bool ((((apOf 20 V).toArray).toList == ((apOf 20 V).toArray).toList) && (((apOf 20 V).toArray).toList == (((((dg.map apD).toArray).toList.dropWhile (#[65] : Array UInt8).contains).toArray).toList)))) ?_ (Ev.chainY
      (Ev.callF (EvG.g kp.kx 6) (kp.kx.f (fd := fAP) 3).keep (EvLs.one (Ev.to (d := .int (((l0 + 16 * l1 + 256 * l2 + 4096 * l3 : Nat) : Int) + 65536 * (x : Int))) (by rw [hV]) (Ev.bin (Ev.v (Ev.name h3)) (Ev.v (Ev.bin (Ev.v .int) (Ev.v (Ev.name h2)) hmul)) .addI))) rfl f1)
      (Ev.callF (EvG.g kp.kx 6) (kp.kx.f (fd := fAP) 3).keep (EvLs.one (Ev.to (d := .int (-((l0 + 16 * l1 + 256 * l2 + 4096 * l3 : Nat) : Int) - 65536 * (x : Int))) (by rw [hV']) (Ev.bin (Ev.v (Ev.neg (Ev.name h3))) (Ev.v (Ev.bin (Ev.v .int) (Ev.v (Ev.name h2)) hmul)) .subI))) rfl f2)
      (Ev.meth (a := .bytes (dg.map apD).toArray) FB.plainAttrs_bytes F.slot_lstripB F.type_lstripB (EvV.name h1 rfl) (EvLs.one .bytes) (MethV.lstripB (by rw [List.size_toArray, List.length_map, hdl]; decide)) rfl rfl rfl rfl (show "bytes" ≠ "" by decide)) rfl)) rfl
    congr 1
    have e1 : (((dg.map apD).toArray).toList.dropWhile (#[65] : Array UInt8).contains) = (dg.map apD).dropWhile isA := rfl
    rw [e1, ← w2]
    simp
end Mine
end
section
open PySem PySem.Spec PySem.Calls PyProof.Rows PySem.W
namespace Mine
variable {p : Program} {w : World} {K : Frag} {n : Nat} {env : Env} {σ : Store} {N N' : Store → Prop} {R : D → Prop} {rest : List Stmt}
theorem range_up : ∀ k : Fin 65, Builtin.Range.rangeSize 0 ((k : Nat) : Int) 1 = (k : Nat) ∧ Builtin.Range.small 0 ((k : Nat) : Int) 1 = true := by decide +kernel
theorem pow6 : ∀ k : Fin 7, 2 ^ (k : Nat) ≤ 64 := by decide
/-- range(a), of a small a -/
theorem EvW.upto {fp pos : Pos} {arg : Expr} {m : Nat} (kx : KX K) (hm : m ≤ 64) (ha : Ev p w K n env σ arg (.int (m : Nat))) (hk : env.kindOf "range" = some .globalImplicit := by rfl) (he : starEach [arg] env = (false, eval arg env) :: starEach [] env := by rfl)
    (hns : (backTo pos (starEach [arg] env)).any (·.1) = false := by rfl) : EvW p w K n env false σ (.Call (.Name "range" fp) [arg] [] pos) ((List.range m).map fun i => .int (i : Nat)) := by
  have h := EvW.range (p := p) (w := w) (K := K) (n := n) (env := env) (σ := σ) (m := m) (EvR.one (fp := fp) (pos := pos) (EvG.b kx 6 rfl rfl hk) ha he hns) (range_up ⟨m, by omega⟩).1 (range_up ⟨m, by omega⟩).2
  have e : rangeDs 0 1 m = (List.range m).map fun i => D.int (i : Nat) := by
    unfold rangeDs
    exact List.map_congr_left fun i _ => by simp
  rw [e] at h; exact h
theorem upto_at {m i : Nat} {d : D} (h : ((List.range m).map fun i => D.int (i : Nat))[i]? = some d) : i < m ∧ d = .int (i : Nat) := by
  rw [List.getElem?_map] at h
  by_cases hi : i < m
  · rw [List.getElem?_range hi] at h; exact ⟨hi, (Option.some.inj h).symm⟩
  · rw [List.getElem?_eq_none (by simp; omega)] at h; cases h
theorem law_total (kp : KP p K) {L : Addr} {c0 c1 c2 c3 : Int} {row : List Str} {m : Nat} {a : Addr} (rok : RowOk row) (hm : m < 64) (hp : row.Perm (tiesOf m))
    (hc : σ.lookup ("cells" : Str) = some (.val (.list [.int c0, .int c1, .int c2, .int c3]))) (hr : σ.lookup ("row" : Str) = some (.val (.list (row.map .str)))) (hx : σ.lookup ("exits" : Str) = some (.val (.list ((exitsOf row).map exitD))))
    (hk : σ.lookup ("counts" : Str) = some (.lst a [.int (lvlN m 0), .int (lvlN m 1), .int (lvlN m 2), .int (lvlN m 3)])) :
    X p w K (n + 3) (callEnvC fLaw L 194) σ (lawBody.drop 18) N (· = .bool true) := by
  have hz6 : ∀ {m : Nat}, m ≤ 1000 → m ≤ sizeLine := fun h => Nat.le_trans h (by decide)
  have hlen := rok.len
  have h64 := pow6 ⟨row.length, by omega⟩
  simp only at h64
  obtain ⟨bb2, bb16, bb15, _, _, bb65⟩ := bits2
  have lenRow : ∀ {S : Store} {q1 q2 q3 : Pos}, S.lookup ("row" : Str) = some (.val (.list (row.map .str))) → Ev p w K (n + 3) (callEnvC fLaw L 194) S (.Call (.Name "len" q1) [.Name "row" q2] [] q3) (.int (row.length : Nat)) := fun h => by
    have := FunV.lenL (p := p) (w := w) (K := K) (n := n + 3) (ds := row.map .str) (by rw [List.length_map]; exact hz6 (by omega))
    rw [List.length_map] at this
    exact Ev.call1 (EvG.b kp.kx 1) .bi (EvV.name h rfl) this
  refine X.assign (d := .int 0) .int (.inl rfl) (by decide) rfl ?_
  refine X.for (tp := false) (ds := (List.range (2 ^ row.length)).map fun i => .int (i : Nat)) (f := fun d σ => put σ "choice" (.val d)) (fun i σ' => σ'.lookup ("total" : Str) = some (.val (.int ((List.range i).map (trmR row)).sum)) ∧ σ'.lookup ("cells" : Str) = some (.val (.list [.int c0, .int c1, .int c2, .int c3])) ∧ σ'.lookup ("row" : Str) = some (.val (.list (row.map .str))) ∧
      σ'.lookup ("exits" : Str) = some (.val (.list ((exitsOf row).map exitD))) ∧ σ'.lookup ("counts" : Str) = some (.lst a [.int (lvlN m 0), .int (lvlN m 1), .int (lvlN m 2), .int (lvlN m 3)]))
    (EvW.upto kp.kx h64 (Ev.to (d := .int ((2 : Int) ^ row.length)) (by push_cast; rfl) (Ev.bin (Ev.v .int) (Ev.v (lenRow (lkN hr))) (pow_two row.length (by omega))))) (cnOk (by decide)) (fun d _ => Asg.name (.inr rfl) (by decide)) .name ⟨lkE, lkN hc, lkN hr, lkN hx, lkN hk⟩ ?_ ?_
  · rintro ch dd σ' hd ⟨h1, h2, h3, h4, h5⟩
    obtain ⟨hch, rfl⟩ := upto_at hd
    obtain ⟨t1, t2⟩ := trm_eq rok ch
    have hsum : ((List.range (ch + 1)).map (trmR row)).sum = ((List.range ch).map (trmR row)).sum + trmR row ch := by
      rw [List.range_succ, List.map_append, List.sum_append]; simp
    have hch' : (put σ' "choice" (.val (.int (ch : Nat)))).lookup ("choice" : Str) = some (.val (.int (ch : Nat))) := lkE
    have g1 : (put σ' "choice" (.val (.int (ch : Nat)))).lookup ("total" : Str) = some (.val (.int ((List.range ch).map (trmR row)).sum)) := lkN h1
    have g2 : (put σ' "choice" (.val (.int (ch : Nat)))).lookup ("cells" : Str) = some (.val (.list [.int c0, .int c1, .int c2, .int c3])) := lkN h2
    have g3 : (put σ' "choice" (.val (.int (ch : Nat)))).lookup ("row" : Str) = some (.val (.list (row.map .str))) := lkN h3
    have g4 : (put σ' "choice" (.val (.int (ch : Nat)))).lookup ("exits" : Str) = some (.val (.list ((exitsOf row).map exitD))) := lkN h4
    have g5 : (put σ' "choice" (.val (.int (ch : Nat)))).lookup ("counts" : Str) = some (.lst a [.int (lvlN m 0), .int (lvlN m 1), .int (lvlN m 2), .int (lvlN m 3)]) := lkN h5
    generalize put σ' "choice" (.val (.int (ch : Nat))) = S at hch' g1 g2 g3 g4 g5 ⊢
    refine X.ite (b := hitR row ch) (N' := fun σ' => σ'.lookup ("total" : Str) = some (.val (.int ((List.range (ch + 1)).map (trmR row)).sum)) ∧ σ'.lookup ("cells" : Str) = some (.val (.list [.int c0, .int c1, .int c2, .int c3])) ∧ σ'.lookup ("row" : Str) = some (.val (.list (row.map .str))) ∧
      σ'.lookup ("exits" : Str) = some (.val (.list ((exitsOf row).map exitD))) ∧ σ'.lookup ("counts" : Str) = some (.lst a [.int (lvlN m 0), .int (lvlN m 1), .int (lvlN m 2), .int (lvlN m 3)])) ?_ (fun hb => ?_) (fun hb => ?_) fun σ'' h => X.nil h
    · refine EvB.to ?_ (EvB.cmp (Ev.v (Ev.comp (xs := exitsOf row) (enc := exitD) (cl := [("choice", L + 4)]) (caps := ["choice"]) (keep := fun e => Builtin.bitAnd ch e.1 == 0) (g := fun e => .int e.1) (binds := fun e => [("cut", .int e.1), ("points", .list (e.2.map fun q => .tup [.str q.1, .int q.2]))]) (tp := true)
        { kind := rfl, names := by decide, clos := rfl, cap := ?_, asg := fun C e he => AsgC.two rfl rfl (by decide) rfl (by decide) (by decide), tests := ?_, elt := fun C e he _ => Ev.name lkB, size := hz6 (by unfold exitsOf; rw [List.length_map]; decide) } (EvW.list (Ev.name g4)) .tuple)) (Ev.v (Ev.list EvLs.nil (by decide))) .eqNil rfl)
      · exact all_filter _ _ _
      · intro C y hy
        obtain rfl : y = ("choice" : Str) := by simpa using hy
        exact ⟨L + 4, .inl rfl, rfl, .inl rfl, rfl⟩
      · intro C e he
        exact EvT.one (EvB.cmp (Ev.v (Ev.bin (Ev.v (Ev.name (lkC hch' rfl (by decide)))) (Ev.v (Ev.name lkB)) .andI)) (Ev.v .int) .eqI rfl)
    · have h3c := t2 hb
      have hT : trmR row ch = 15 ^ (cntR row ch - 3) := by unfold trmR; rw [if_pos hb]
      refine X.assign (d := .int (((List.range ch).map (trmR row)).sum + 15 ^ (cntR row ch - 3))) ?_ (.inl rfl) (by decide) rfl (X.nil ⟨?_, lkN g2, lkN g3, lkN g4, lkN g5⟩)
      · have hcnt : ((cntR row ch : Nat) : Int) - 3 = ((cntR row ch - 3 : Nat) : Int) := by omega
        have hc6 : cntR row ch ≤ 6 := Nat.le_trans (List.length_filter_le _ _) (by rw [List.length_range]; exact hlen)
        refine Ev.bin (Ev.v (Ev.name g1)) (Ev.v (Ev.bin (Ev.v .int) (Ev.v (Ev.to (d := .int (((cntR row ch : Nat) : Int) - 3)) (by rw [hcnt]) (Ev.bin (Ev.v (Ev.call1 (EvG.b kp.kx 1) .bi (Ev.v (Ev.comp (xs := List.range row.length) (enc := fun i => .int (i : Nat)) (cl := [("choice", L + 4)]) (caps := ["choice"]) (keep := fun k => ((ch : Int).fdiv (2 ^ k)).fmod 2 == 1) (g := fun k => .int (k : Nat)) (binds := fun k => [("k", .int (k : Nat))]) (tp := false)
          { kind := rfl, names := by decide, clos := rfl, cap := ?_, asg := fun C k hk => AsgC.name rfl rfl (by decide), tests := ?_, elt := fun C k hk _ => Ev.name lkB, size := hz6 (by rw [List.length_range]; omega) } (EvW.upto kp.kx (by omega) (lenRow g3)) .name)) ?_)) (Ev.v .int) .subI))) (pow_int 15 (k := cntR row ch - 3) (by omega) (by rw [bb15]; decide)))) .addI
        · intro C y hy
          obtain rfl : y = ("choice" : Str) := by simpa using hy
          exact ⟨L + 4, .inl rfl, rfl, .inl rfl, rfl⟩
        · intro C k hk
          have hk6 : k < row.length := by simpa using hk
          exact EvT.one (EvB.cmp (Ev.v (Ev.bin (Ev.v (Ev.bin (Ev.v (Ev.name (lkC hch' rfl (by decide)))) (Ev.v (Ev.bin (Ev.v .int) (Ev.v (Ev.name lkB)) (pow_two k (by omega)))) (.fdivI (two_pow_ne k) (two_pow_small (by omega))))) (Ev.v .int) (.modI (by decide)))) (Ev.v .int) .eqI rfl)
        · have := FunV.lenL (p := p) (w := w) (K := K) (n := n + 3) (ds := ((List.range row.length).filter fun k => ((ch : Int).fdiv (2 ^ k)).fmod 2 == 1).map fun k => D.int (k : Nat)) (by rw [List.length_map]; exact hz6 (Nat.le_trans (List.length_filter_le _ _) (by rw [List.length_range]; omega)))
          rw [List.length_map] at this
          exact this
      · rw [lkE, hsum, hT]
    · have hT : trmR row ch = 0 := by unfold trmR; rw [if_neg (by rw [hb]; decide)]
      refine X.nil ⟨?_, g2, g3, g4, g5⟩
      rw [g1, hsum, hT, Int.add_zero]
  · rintro σ' ⟨h1, h2, h3, h4, h5⟩
    rw [List.length_map, List.length_range, total_eq rok hm hp] at h1
    have le : ∀ j : Nat, j < 4 → lvlN m j ≤ 15 := fun j hj => by
      have := all_of (all_of lvl_le (a := m) (by simpa using hm)) (a := j) (by simpa using hj)
      simpa using this
    exact law_word kp (le 0 (by decide)) (le 1 (by decide)) (le 2 (by decide)) (le 3 (by decide)) h2 h1 h5
end Mine
end
section
open PySem PySem.Spec PySem.Calls PyProof.Rows PySem.W
namespace Mine
variable {p : Program} {w : World} {K : Frag} {n : Nat} {env : Env} {σ : Store} {N N' : Store → Prop} {R : D → Prop} {rest : List Stmt}
theorem exits_ok (row : List Str) : (∀ e ∈ exitsOf row, ∀ q ∈ e.2, q.1 ∈ pts3) ∧ (exitsOf row).length ≤ 7 ∧ ∀ e ∈ exitsOf row, e.2.length ≤ 3 := by
  refine ⟨fun e he q hq => ?_, by unfold exitsOf; rw [List.length_map]; decide, fun e he => ?_⟩
  · obtain ⟨g, hg, rfl⟩ := List.mem_map.mp he
    obtain ⟨z, hz, rfl⟩ := List.mem_map.mp hq
    exact group_pts g hg z hz
  · obtain ⟨g, hg, rfl⟩ := List.mem_map.mp he
    show (ptsG row g).length ≤ 3
    unfold ptsG
    rw [List.length_map]
    have : ∀ g ∈ groups, (sgs g).length ≤ 3 := by decide +kernel
    exact this g hg
noncomputable def lvlAt (m i j : Nat) : Nat := ((List.range i).filter fun n => freeN m n && popN m == j + 3 + sumN n).length
theorem lvl_step (m i j : Nat) : lvlAt m (i + 1) j = lvlAt m i j + if (freeN m i && popN m == j + 3 + sumN i) = true then 1 else 0 := by
  unfold lvlAt
  rw [List.range_succ, List.filter_append, List.length_append, List.filter_cons]
  split <;> simp
theorem nat_mod (a b : Nat) : (a : Int).fmod (b : Nat) = ((a % b : Nat) : Int) := by rw [Int.fmod_eq_emod_of_nonneg _ (Int.natCast_nonneg _)]; rfl
theorem nat_div (a b : Nat) : (a : Int).fdiv (b : Nat) = ((a / b : Nat) : Int) := by rw [Int.fdiv_eq_ediv_of_nonneg _ (Int.natCast_nonneg _)]; rfl
theorem law_counts (kp : KP p K) {L : Addr} {c0 c1 c2 c3 : Int} {row : List Str} {m : Nat} (rok : RowOk row) (hm : m < 64) (hp : row.Perm (tiesOf m))
    (hc : σ.lookup ("cells" : Str) = some (.val (.list [.int c0, .int c1, .int c2, .int c3]))) (hr : σ.lookup ("row" : Str) = some (.val (.list (row.map .str)))) (hx : σ.lookup ("exits" : Str) = some (.val (.list ((exitsOf row).map exitD)))) :
    X p w K (n + 3) (callEnvC fLaw L 194) σ (lawBody.drop 16) N (· = .bool true) := by
  have hz6 : ∀ {m : Nat}, m ≤ 1000 → m ≤ sizeLine := fun h => Nat.le_trans h (by decide)
  have hlen := rok.len
  have hpop := row_len hp
  refine Stp.newL (ds := [.int 0, .int 0, .int 0, .int 0]) (.cons .int (.cons .int (.cons .int (EvLs.one .int)))) (.inl rfl) (by decide) (show (4 : Nat) ≤ sizeLine by decide) rfl fun a => ?_
  refine X.for (tp := false) (ds := (List.range 27).map fun i => .int (i : Nat)) (f := fun d σ => put σ "number" (.val d)) (fun i σ' => (∃ a, σ'.lookup ("counts" : Str) = some (.lst a [.int (lvlAt m i 0), .int (lvlAt m i 1), .int (lvlAt m i 2), .int (lvlAt m i 3)])) ∧ σ'.lookup ("cells" : Str) = some (.val (.list [.int c0, .int c1, .int c2, .int c3])) ∧ σ'.lookup ("row" : Str) = some (.val (.list (row.map .str))) ∧
      σ'.lookup ("exits" : Str) = some (.val (.list ((exitsOf row).map exitD))))
    (EvW.upto kp.kx (by decide) .int) (cnOk (by decide)) (fun d _ => Asg.name (.inl rfl) (by decide)) .name ⟨⟨a, lkE⟩, lkN hc, lkN hr, lkN hx⟩ ?_ ?_
  · rintro i dd σ' hd ⟨⟨a, h1⟩, h2, h3, h4⟩
    obtain ⟨hi, rfl⟩ := upto_at hd
    have hnum : ∀ {S : Store} {q : Pos}, S.lookup ("number" : Str) = some (.val (.int (i : Nat))) → Ev p w K (n + 3) (callEnvC fLaw L 194) S (.Name "number" q) (.int (i : Nat)) := fun h => Ev.name h
    refine X.newK (kds := patL (i % 3 : Nat) (i / 3 % 3 : Nat) (i / 9 : Nat)) (.cons .str (Ev.to (d := .int ((i : Int).fmod 3)) (by rw [show (3 : Int) = ((3 : Nat) : Int) from rfl, nat_mod]) (Ev.bin (Ev.v (Ev.name lkE)) (Ev.v .int) (.modI (by decide))))
      (.cons .str (Ev.to (d := .int (((i : Int).fdiv 3).fmod 3)) (by rw [show (3 : Int) = ((3 : Nat) : Int) from rfl, nat_div, nat_mod]) (Ev.bin (Ev.v (Ev.bin (Ev.v (Ev.name lkE)) (Ev.v .int) (.fdivI (by decide) (by decide)))) (Ev.v .int) (.modI (by decide))))
      (.cons .str (Ev.to (d := .int ((i : Int).fdiv 9)) (by rw [show (9 : Int) = ((9 : Nat) : Int) from rfl, nat_div]) (Ev.bin (Ev.v (Ev.name lkE)) (Ev.v .int) (.fdivI (by decide) (by decide)))) .nil))) (.inl rfl) (by decide) rfl rfl (by decide) (by decide) (show ((["b", "c", "d"] : List Str)).Nodup by decide) rfl fun ks => ?_
    refine X.kd fun hkd => X.freeze lkE rfl hkd ?_
    generalize hS : put (put (put σ' "number" (.val (.int (i : Nat)))) "some" (.dct ks (patL (i % 3 : Nat) (i / 3 % 3 : Nat) (i / 9 : Nat)))) "some" (.val (.dict (patL (i % 3 : Nat) (i / 3 % 3 : Nat) (i / 9 : Nat)))) = S
    have g1 : S.lookup ("counts" : Str) = some (.lst a [.int (lvlAt m i 0), .int (lvlAt m i 1), .int (lvlAt m i 2), .int (lvlAt m i 3)]) := hS ▸ lkN (lkN (lkN h1))
    have g2 : S.lookup ("cells" : Str) = some (.val (.list [.int c0, .int c1, .int c2, .int c3])) := hS ▸ lkN (lkN (lkN h2))
    have g3 : S.lookup ("row" : Str) = some (.val (.list (row.map .str))) := hS ▸ lkN (lkN (lkN h3))
    have g4 : S.lookup ("exits" : Str) = some (.val (.list ((exitsOf row).map exitD))) := hS ▸ lkN (lkN (lkN h4))
    have g5 : S.lookup ("some" : Str) = some (.val (.dict (patL (i % 3 : Nat) (i / 3 % 3 : Nat) (i / 9 : Nat)))) := hS ▸ lkE
    obtain ⟨x1, x2, x3⟩ := exits_ok row
    refine X.ite (b := freeN m i) (N' := fun σ' => (∃ a, σ'.lookup ("counts" : Str) = some (.lst a [.int (lvlAt m (i + 1) 0), .int (lvlAt m (i + 1) 1), .int (lvlAt m (i + 1) 2), .int (lvlAt m (i + 1) 3)])) ∧ σ'.lookup ("cells" : Str) = some (.val (.list [.int c0, .int c1, .int c2, .int c3])) ∧ σ'.lookup ("row" : Str) = some (.val (.list (row.map .str))) ∧
      σ'.lookup ("exits" : Str) = some (.val (.list ((exitsOf row).map exitD)))) ?_ (fun hb => ?_) (fun hb => ?_) fun σ'' h => X.nil h
    · exact EvB.to (free_num hp rfl rfl rfl) (EvB.cmp (Ev.v (Ev.callF (EvG.g kp.kx 9) (kp.kx.f (fd := fStuck) 6).keep (.cons (Ev.name g4) (EvLs.one (Ev.name g5))) rfl (stuck_fn (n := n + 2) kp.kx x1 x2 x3))) (Ev.v .str) .eqS rfl)
    · have hfl := all_of (all_of free_lvl (a := m) (by simpa using hm)) (a := i) (by simpa using hi)
      rw [hb, Bool.not_true, Bool.false_or, Bool.and_eq_true, decide_eq_true_eq, decide_eq_true_eq] at hfl
      obtain ⟨jj, hjj⟩ : ∃ jj, popN m = jj + 3 + sumN i := ⟨popN m - 3 - sumN i, by omega⟩
      have hj4 : jj < 4 := by omega
      have hst : ∀ j, lvlAt m (i + 1) j = lvlAt m i j + if j = jj then 1 else 0 := fun j => by
        rw [lvl_step, hb, Bool.true_and, hjj]
        by_cases e : j = jj
        · subst e; simp
        · have : ¬ (jj + 3 + sumN i = j + 3 + sumN i) := by omega
          have e' : ¬ jj = j := fun q => e q.symm
          simp [e, e']
      have lenRow : ∀ {q1 q2 q3 : Pos}, Ev p w K (n + 3) (callEnvC fLaw L 194) S (.Call (.Name "len" q1) [.Name "row" q2] [] q3) (.int (row.length : Nat)) := by
        have := FunV.lenL (p := p) (w := w) (K := K) (n := n + 3) (ds := row.map .str) (by rw [List.length_map]; exact hz6 (by omega))
        rw [List.length_map] at this
        intros
        exact Ev.call1 (EvG.b kp.kx 1) .bi (EvV.name g3 rfl) this
      have hidx : ((row.length : Nat) : Int) - 3 - ([("b", ((i % 3 : Nat) : Int)), ("c", ((i / 3 % 3 : Nat) : Int)), ("d", ((i / 9 : Nat) : Int))] : List (Str × Int)).foldr (fun z acc => z.2 + acc) 0 = (jj : Int) := by
        simp only [List.foldr]
        rw [hpop, hjj]
        unfold sumN
        omega
      have hsum : (([("b", ((i % 3 : Nat) : Int)), ("c", ((i / 3 % 3 : Nat) : Int)), ("d", ((i / 9 : Nat) : Int))] : List (Str × Int)).map (·.2)).sum = ([("b", ((i % 3 : Nat) : Int)), ("c", ((i / 3 % 3 : Nat) : Int)), ("d", ((i / 9 : Nat) : Int))] : List (Str × Int)).foldr (fun z acc => z.2 + acc) 0 := rfl
      have hds : ([.int (lvlAt m i 0), .int (lvlAt m i 1), .int (lvlAt m i 2), .int (lvlAt m i 3)] : List D)[jj]? = some (.int (lvlAt m i jj)) := by
        match jj, hj4 with
        | 0, _ => rfl
        | 1, _ => rfl
        | 2, _ => rfl
        | 3, _ => rfl
      refine X.step (Stp.aug (i := (jj : Int)) (u := (lvlAt m i jj : Nat)) (v := 1) g1 (Ev.to (d := .int (((row.length : Nat) : Int) - 3 - (([("b", ((i % 3 : Nat) : Int)), ("c", ((i / 3 % 3 : Nat) : Int)), ("d", ((i / 9 : Nat) : Int))] : List (Str × Int)).map (·.2)).sum)) (by rw [hsum, hidx])
        (Ev.bin (Ev.v (Ev.bin (Ev.v lenRow) (Ev.v .int) .subI)) (Ev.v (Ev.sumV (ks := [("b", ((i % 3 : Nat) : Int)), ("c", ((i / 3 % 3 : Nat) : Int)), ("d", ((i / 9 : Nat) : Int))]) (EvG.b kp.kx 8) (EvV.name g5 rfl) rfl rfl rfl ⟨rfl, rfl⟩ rfl)) .subI)) .int (Int.natCast_nonneg _) (by show ((jj : Nat) : Int) < (4 : Nat); omega) (by omega) (by rw [Int.toNat_natCast]; exact hds))
        (X.nil ⟨⟨a, ?_⟩, lkN g2, lkN g3, lkN g4⟩)
      rw [lkE, hst, hst, hst, hst, Int.toNat_natCast]
      match jj, hj4 with
      | 0, _ => rfl
      | 1, _ => rfl
      | 2, _ => rfl
      | 3, _ => rfl
    · have hst : ∀ j, lvlAt m (i + 1) j = lvlAt m i j := fun j => by rw [lvl_step, hb]; simp
      refine X.nil ⟨⟨a, ?_⟩, g2, g3, g4⟩
      rw [hst, hst, hst, hst]; exact g1
  · rintro σ' ⟨⟨a, h1⟩, h2, h3, h4⟩
    exact law_total kp rok hm hp h2 h3 h4 h1
end Mine
end
section
open PySem PySem.Spec PySem.Calls PyProof.Rows PySem.W
namespace Mine
variable {p : Program} {w : World} {K : Frag} {n : Nat} {env : Env} {σ : Store} {N N' : Store → Prop} {R : D → Prop} {rest : List Stmt}
/-- what law has in hand, once the fire is out -/
structure LawS (c0 c1 c2 c3 : Int) (row : List Str) (s : BSt) (stk : Str) (σ : Store) : Prop where
  cells : σ.lookup ("cells" : Str) = some (.val (.list [.int c0, .int c1, .int c2, .int c3]))
  rows : σ.lookup ("row" : Str) = some (.val (.list (row.map .str)))
  exits : σ.lookup ("exits" : Str) = some (.val (.list ((exitsOf row).map exitD)))
  stuck : σ.lookup ("stuck" : Str) = some (.val (.str stk))
  ways : σ.lookup ("ways" : Str) = some (.val (.dict (toK .str s.ways)))
  hosts : σ.lookup ("hosts" : Str) = some (.val (.dict (toK .str (hostL s))))
theorem LawS.put {c0 c1 c2 c3 : Int} {row : List Str} {s : BSt} {stk : Str} (h : LawS c0 c1 c2 c3 row s stk σ) {x : Str} {e : Ent} (hx : x ∉ (["cells", "row", "exits", "stuck", "ways", "hosts"] : List Str)) : LawS c0 c1 c2 c3 row s stk (put σ x e) := by
  simp only [List.mem_cons, List.not_mem_nil, or_false, not_or] at hx
  obtain ⟨h1, h2, h3, h4, h5, h6⟩ := hx
  obtain ⟨e1, e2, e3, e4, e5, e6⟩ := h
  exact ⟨lkN e1 (Ne.symm h1), lkN e2 (Ne.symm h2), lkN e3 (Ne.symm h3), lkN e4 (Ne.symm h4), lkN e5 (Ne.symm h5), lkN e6 (Ne.symm h6)⟩
theorem pts4_signs : signs ("abcd" : Str) = pts4.map .str := by
  rw [signs, pts4]; rfl
theorem pts4_len : ∀ q ∈ pts4, q.length = 1 ∧ (q == "a") = (pNo q == 0) := by decide +kernel
section
variable {L : Addr} {c0 c1 c2 c3 : Int} {row : List Str} {pat : Str → Int} {s : BSt} {x : Cfg} {stk : Str} {q : Str}
theorem notStuck {S : Store} {y : Str} {q1 q2 q3 : Pos} (hst : ∀ q ∈ pts4, strIn q stk = !inW s q) (hq : q ∈ pts4) (hy : S.lookup y = some (.val (.str q))) (h : LawS c0 c1 c2 c3 row s stk S) : EvB p w K (n + 3) (callEnvC fLaw L 194) S (.Compare (.Name y q1) [.NotIn] [.Name "stuck" q2] q3) (inW s q) :=
  EvB.to (by rw [hst q hq, Bool.not_not]) (EvB.cmp (Ev.v (Ev.name hy)) (Ev.v (Ev.name h.stuck)) .notInS rfl)
theorem isNotSame (b : Bool) : (b != b) = false := by cases b <;> rfl
/-- a call of user_domain_match -/
theorem udmCall (kp : KP p K) (kr : KR K) {S : Store} {e1 e2 : Expr} {fp pos : Pos} {a b : Str} {r : Bool} (h : udmV a b = some r) (h1 : Ev p w K (n + 3) (callEnvC fLaw L 194) S e1 (.str a)) (h2 : Ev p w K (n + 3) (callEnvC fLaw L 194) S e2 (.str b))
    (hs : starEach [e1, e2] (callEnvC fLaw L 194) = (false, eval e1 (callEnvC fLaw L 194)) :: starEach [e2] (callEnvC fLaw L 194) := by rfl) (hs' : starEach [e2] (callEnvC fLaw L 194) = (false, eval e2 (callEnvC fLaw L 194)) :: starEach [] (callEnvC fLaw L 194) := by rfl)
    (hns : (backTo pos (starEach [e1, e2] (callEnvC fLaw L 194))).any (·.1) = false := by rfl) : Ev p w K (n + 3) (callEnvC fLaw L 194) S (.Call (.Name "user_domain_match" fp) [e1, e2] [] pos) (.bool r) :=
  Ev.callF (EvG.g kp.kx 5) (kp.kx.f (fd := fMatch) 2).keep (.cons h1 (EvLs.one h2 hs') hs) hns (udmV_fn (n := n + 1) kp.kx kr h)
noncomputable def lawPoint : List Stmt := match lawBody[15]? with
  | some (Stmt.For _ _ body _ _) => body
  | _ => []
/-- the questions about one point that burns -/
theorem law_hosts (kp : KP p K) (kr : KR K) (hx : x ∈ cfgs) (hlk : ∀ q ∈ pts4, s.ways.lookup q = cLk x q) (hst : ∀ q ∈ pts4, strIn q stk = !inW s q) (hq : q ∈ pts4) (h : LawS c0 c1 c2 c3 row s stk σ) (hp : σ.lookup ("point" : Str) = some (.val (.str q))) (hh : σ.lookup ("host" : Str) = some (.val (.str (hostOf s q)))) :
    X p w K (n + 3) (callEnvC fLaw L 194) σ (lawPoint.drop 4) (LawS c0 c1 c2 c3 row s stk) R := by
  refine X.ite (b := inW s q) (N' := LawS c0 c1 c2 c3 row s stk) (notStuck hst hq hp h) (fun hb => ?_) (fun hb => X.nil h) fun σ' h => X.nil h
  unfold inW at hb
  obtain ⟨v, hv⟩ := Option.isSome_iff_exists.mp hb
  have hvx := (hlk q hq).symm.trans hv
  have hho : hostOf s q = hostTxt v := by unfold hostOf; rw [hv]
  obtain ⟨q4, hq2⟩ := pts_at hq
  have k16 := cAt_le hx q4
  have hv' : wy (cAt x (pNo q)) = some v := hvx
  have hhd := all_of (all_of way_head hx) (a := pNo q) (by simpa using q4)
  cases hk : cAt x (pNo q) with
  | zero => rw [hk] at hv'; cases hv'
  | succ k =>
    rw [hk] at hv' k16 hhd
    have hK : hostOf s q = hostK (k + 1) := by rw [hho]; unfold hostK; rw [hv']; rfl
    have hqa : (q == "a") = (k == 0) := by
      rw [(pts4_len q hq).2]
      have h0 : (k + 1 == 0) = false := by simp
      rw [h0, Bool.false_or] at hhd
      have h1 : (k + 1 == 1) = (pNo q == 0) := by simpa using hhd
      rw [← h1]
      by_cases e : k = 0
      · subst e; rfl
      · have a1 : (k == 0) = false := by simpa using e
        have a2 : (k + 1 == 1) = false := by simpa using e
        rw [a1, a2]
    rw [hK] at hh
    obtain ⟨u1, u2, u3, u4, u5, u6, u7⟩ := udm_one ⟨k, by omega⟩
    obtain ⟨_, _, _, _, hl5, hl6⟩ := host_low ⟨k, by omega⟩
    simp only at u1 u2 u3 u4 u5 u6 u7 hl5 hl6
    have hlow : (Txt.lower (hostK (k + 1))).length ≤ 1000 := by
      have := (host_ip v (by
        have : wy (k + 1) = some v := hv'
        exact List.mem_of_getElem? this)).2.2.1
      rw [← hho, hK] at this; exact this
    have szH : ∀ {y : Str}, y.length ≤ 10 → (hostK (k + 1)).length + y.length ≤ sizeLine := fun hy => by simp only [sizeLine]; omega
    have szU : ∀ {y : Str}, y.length ≤ 10 → (Txt.upper (hostK (k + 1))).length + y.length ≤ sizeLine := fun hy => by simp only [sizeLine]; omega
    have hN : ∀ {q1 : Pos}, Ev p w K (n + 3) (callEnvC fLaw L 194) σ (.Name "host" q1) (.str (hostK (k + 1))) := Ev.name hh
    have hU : ∀ {q1 : Pos} {apos pos : Pos}, (apos.endLine == pos.line) = true → Ev p w K (n + 3) (callEnvC fLaw L 194) σ (.Call (.Attribute (.Name "host" q1) "upper" apos) [] [] pos) (.str (Txt.upper (hostK (k + 1)))) := fun hl =>
      Ev.methS F.slot_str_upper F.type_str_upper hN EvLs.nil (MethV.upper (Nat.le_trans hl6 (by decide))) rfl ⟨rfl, rfl⟩ hl
    have cat : ∀ {y : Str} {e1 : Expr} {q1 q2 : Pos} {k1 : Nat} {z : Str}, Ev p w K (n + 3) (callEnvC fLaw L 194) σ e1 (.str z) → z.length + y.length ≤ sizeLine → Ev p w K (n + 3) (callEnvC fLaw L 194) σ (.BinOp e1 .Add (.Constant (.str y) k1 q1) q2) (.str (z ++ y)) := fun he hz => Ev.bin (Ev.v he) (Ev.v .str) (BinOk.addS hz)
    have dot : ∀ {e1 : Expr} {q1 q2 : Pos} {k1 : Nat} {z : Str}, Ev p w K (n + 3) (callEnvC fLaw L 194) σ e1 (.str z) → z.length ≤ 500 → Ev p w K (n + 3) (callEnvC fLaw L 194) σ (.BinOp (.Constant (.str ".") k1 q1) .Add e1 q2) (.str ("." ++ z)) := fun he hz => Ev.bin (Ev.v .str) (Ev.v he) (BinOk.addS (a := ".") (by
      have : ("." : Str).length = 1 := rfl
      simp only [sizeLine]; omega))
    have fin : ∀ {a b : Bool}, (a = b) → (a != b) = false := fun e => by rw [e]; exact isNotSame _
    refine X.iteF (EvB.to (b := ((false != false) || (((k == 0) != (q == "a")) || false))) (by rw [hqa, isNotSame, isNotSame]; rfl) (EvB.ops (EvBs.orC (EvB.cmp (Ev.v (udmCall kp kr u1 (cat hN (szH (by decide))) .str)) (Ev.v .bool) .isNotB rfl) fun _ => EvBs.orC (EvB.cmp (Ev.v (udmCall kp kr u2 hN .str)) (Ev.v (Ev.cmp (Ev.v (Ev.name hp)) (Ev.v .str) .eqS rfl)) .isNotB rfl) fun _ => EvBs.orN))) ?_
    refine X.iteF (EvB.to (b := ((false != false) || ((true != true) || false))) (by decide) (EvB.ops (EvBs.orC (EvB.cmp (Ev.v (udmCall kp kr u3 (cat hN (szH (by decide))) .str)) (Ev.v .bool) .isNotB rfl) fun _ => EvBs.orC (EvB.cmp (Ev.v (udmCall kp kr u4 (cat hN (szH (by decide))) (cat (hU rfl) (szU (by decide))))) (Ev.v .bool) .isNotB rfl) fun _ => EvBs.orN))) ?_
    refine X.iteF (EvB.to (b := ((k != 0) != (q != "a"))) (by unfold bne; rw [hqa]; exact isNotSame _) (EvB.cmp (Ev.v (udmCall kp kr u5 (cat hN (szH (by decide))) .str)) (Ev.v (Ev.cmp (Ev.v (Ev.name hp)) (Ev.v .str) .neS rfl)) .isNotB rfl)) ?_
    refine X.iteF (EvB.to (b := ((true != true) || ((true != true) || false))) (by decide) (EvB.ops (EvBs.orC (EvB.cmp (Ev.v (udmCall kp kr u6 (dot hN hl5) (dot (hU rfl) hl6))) (Ev.v .bool) .isNotB rfl) fun _ => EvBs.orC (EvB.cmp (Ev.v (udmCall kp kr u7 (cat hN (szH (by decide))) .str)) (Ev.v .bool) .isNotB rfl) fun _ => EvBs.orN))) (X.nil h)
end
end Mine
end
section
open PySem PySem.Spec PySem.Calls PyProof.Rows PySem.W
namespace Mine
variable {p : Program} {w : World} {K : Frag} {n : Nat} {env : Env} {σ : Store} {N N' : Store → Prop} {R : D → Prop} {rest : List Stmt}
section
variable {L : Addr} {c0 c1 c2 c3 : Int} {row : List Str} {s : BSt} {x : Cfg} {stk : Str} {m : Nat}
set_option maxHeartbeats 4000000 in
theorem law_points (kp : KP p K) (kr : KR K) (rok : RowOk row) (hm : m < 64) (hpm : row.Perm (tiesOf m)) (hx : x ∈ cfgs) (hlk : ∀ q ∈ pts4, s.ways.lookup q = cLk x q) (hst : ∀ q ∈ pts4, strIn q stk = !inW s q) (h : LawS c0 c1 c2 c3 row s stk σ) :
    X p w K (n + 3) (callEnvC fLaw L 194) σ (lawBody.drop 15) N (· = .bool true) := by
  refine X.for (tp := false) (ds := pts4.map .str) (f := fun d σ => put σ "point" (.val d)) (fun i σ' => LawS c0 c1 c2 c3 row s stk σ') (pts4_signs ▸ EvW.str .str (by decide +kernel)) (cnOk (by decide)) (fun d _ => Asg.name (.inr rfl) (by decide)) .name h ?_ ?_
  · intro i dd σ' hd hI
    rw [List.getElem?_map] at hd
    cases hg : pts4[i]? with
    | none => rw [hg] at hd; cases hd
    | some q =>
    rw [hg] at hd
    obtain rfl : dd = .str q := (Option.some.inj hd).symm
    have hq : q ∈ pts4 := List.mem_of_getElem? hg
    refine X.assign (d := .str q) (Ev.name lkE) (.inl rfl) (by decide) rfl ?_
    have h1 : LawS c0 c1 c2 c3 row s stk (put (put σ' "point" (.val (.str q))) "host" (.val (.str q))) := (hI.put (by decide)).put (by decide)
    have hp1 : (put (put σ' "point" (.val (.str q))) "host" (.val (.str q))).lookup ("point" : Str) = some (.val (.str q)) := lkN lkE
    have hh1 : (put (put σ' "point" (.val (.str q))) "host" (.val (.str q))).lookup ("host" : Str) = some (.val (.str q)) := lkE
    generalize put (put σ' "point" (.val (.str q))) "host" (.val (.str q)) = S at h1 hp1 hh1 ⊢
    refine X.ite (b := inW s q) (N' := fun U => LawS c0 c1 c2 c3 row s stk U ∧ U.lookup ("point" : Str) = some (.val (.str q)) ∧ U.lookup ("host" : Str) = some (.val (.str (hostOf s q)))) (notStuck hst hq hp1 h1) (fun hb => ?_) (fun hb => ?_) ?_
    · unfold inW at hb
      obtain ⟨v, hv⟩ := Option.isSome_iff_exists.mp hb
      have hvx := (hlk q hq).symm.trans hv
      have hho : hostOf s q = hostTxt v := by unfold hostOf; rw [hv]
      have hvT : v ∈ wayT := by
        have h2 : wy (cAt x (pNo q)) = some v := hvx
        cases hk : cAt x (pNo q) with
        | zero => rw [hk] at h2; cases h2
        | succ k => rw [hk] at h2; exact List.mem_of_getElem? h2
      have hvl : v.length ≤ 10 := by
        have : ∀ v ∈ wayT, v.length ≤ 10 := by decide +kernel
        exact this v hvT
      have hhl := (host_ip v hvT).2.2.2
      refine X.assign (d := .str (hostTxt v)) (Ev.bin (Ev.v (Ev.methS F.slot_str_join F.type_str_join .str (EvLs.one (Ev.sub (EvV.name h1.ways rfl) (Ev.v (Ev.name hp1)) (IdxOk.dict (by rw [getK_toK, hv]; rfl)) fun _ _ => rfl)) (MethV.joinS (by decide) (Nat.le_trans hvl (by decide))))) (Ev.v .str) (BinOk.addS (a := Txt.join "." (sgs v)) (b := ".local") ?_)) (.inl rfl) (by decide) rfl (X.nil ⟨h1.put (by decide), lkN hp1, by rw [lkE, hho]⟩)
      have e : (hostTxt v).length = (Txt.join "." (sgs v)).length + (".local" : Str).length := str_len_append _ _
      have : (".local" : Str).length = 6 := rfl
      simp only [sizeLine]; omega
    · refine X.nil ⟨h1, hp1, ?_⟩
      have : s.ways.lookup q = none := by unfold inW at hb; simpa using hb
      rw [hh1]; unfold hostOf; rw [this]
    · rintro U ⟨h2, hp2, hh2⟩
      refine X.iteF (EvB.to (b := hostOf s q != hostOf s q) (by simp) (EvB.cmp (Ev.v (Ev.sub (EvV.name h2.hosts rfl) (Ev.v (Ev.name hp2)) (IdxOk.dict (host_get hq)) fun _ _ => rfl)) (Ev.v (Ev.name hh2)) .neS rfl)) ?_
      refine X.for (tp := false) (ds := pts4.map .str) (f := fun d σ => put σ "other" (.val d)) (fun i V => LawS c0 c1 c2 c3 row s stk V ∧ V.lookup ("point" : Str) = some (.val (.str q)) ∧ V.lookup ("host" : Str) = some (.val (.str (hostOf s q)))) (pts4_signs ▸ EvW.str .str (by decide +kernel)) (cnOk (by decide)) (fun d _ => Asg.name (.inl rfl) (by decide)) .name ⟨h2, hp2, hh2⟩ ?_ ?_
      · rintro j dd V hd ⟨h3, hp3, hh3⟩
        rw [List.getElem?_map] at hd
        cases hg : pts4[j]? with
        | none => rw [hg] at hd; cases hd
        | some o =>
        rw [hg] at hd
        obtain rfl : dd = .str o := (Option.some.inj hd).symm
        have ho : o ∈ pts4 := List.mem_of_getElem? hg
        have h4 : LawS c0 c1 c2 c3 row s stk (put V "other" (.val (.str o))) := h3.put (by decide)
        have hp4 : (put V "other" (.val (.str o))).lookup ("point" : Str) = some (.val (.str q)) := lkN hp3
        have hh4 : (put V "other" (.val (.str o))).lookup ("host" : Str) = some (.val (.str (hostOf s q))) := lkN hh3
        have ho4 : (put V "other" (.val (.str o))).lookup ("other" : Str) = some (.val (.str o)) := lkE
        generalize put V "other" (.val (.str o)) = T at h4 hp4 hh4 ho4 ⊢
        refine X.ite (b := inW s q && (inW s o && true)) (N' := fun V => LawS c0 c1 c2 c3 row s stk V ∧ V.lookup ("point" : Str) = some (.val (.str q)) ∧ V.lookup ("host" : Str) = some (.val (.str (hostOf s q)))) (EvB.ops (EvBs.andC (notStuck hst hq hp4 h4) fun _ => EvBs.andC (notStuck hst ho ho4 h4) fun _ => EvBs.andN)) (fun hb => ?_) (fun hb => X.nil ⟨h4, hp4, hh4⟩) fun σ'' h => X.nil h
        rw [Bool.and_true, Bool.and_eq_true] at hb
        unfold inW at hb
        obtain ⟨v, hv⟩ := Option.isSome_iff_exists.mp hb.1
        obtain ⟨u, hu⟩ := Option.isSome_iff_exists.mp hb.2
        have hvx := (hlk q hq).symm.trans hv
        have hux := (hlk o ho).symm.trans hu
        have hho : hostOf s q = hostTxt v := by unfold hostOf; rw [hv]
        have hou : hostOf s o = hostTxt u := by unfold hostOf; rw [hu]
        have hpair := udm_pair hx hq ho hvx hux
        have wT : ∀ {z y : Str}, z ∈ pts4 → cLk x z = some y → ∃ k, k < 16 ∧ wy (k + 1) = some y := fun {z y} hz hy => by
          have h2 : wy (cAt x (pNo z)) = some y := hy
          have h16 := cAt_le hx (pts_at hz).1
          cases hk : cAt x (pNo z) with
          | zero => rw [hk] at h2; cases h2
          | succ k => rw [hk] at h2 h16; exact ⟨k, by omega, h2⟩
        obtain ⟨k, hk16, hk⟩ := wT hq hvx
        obtain ⟨j2, hj16, hj2⟩ := wT ho hux
        have hKv : hostTxt v = hostK (k + 1) := by unfold hostK; rw [hk]; rfl
        have hKu : hostTxt u = hostK (j2 + 1) := by unfold hostK; rw [hj2]; rfl
        obtain ⟨_, _, _, _, a5, a6⟩ := host_low ⟨k, hk16⟩
        obtain ⟨_, _, _, _, b5, b6⟩ := host_low ⟨j2, hj16⟩
        simp only at a5 a6 b5 b6
        have hvl : v.length ≤ 10 := by
          have : ∀ v ∈ wayT, v.length ≤ 10 := by decide +kernel
          exact this v (List.mem_of_getElem? hk)
        have hcut : (strCut v (some 1) none).length ≤ 100 := by
          have := (way_rest ⟨k, hk16⟩).1
          simp only at this
          rw [hk, Option.getD_some] at this; exact this
        refine X.iteF (EvB.to (b := strIn o (strCut v (some 1) none) != strIn o (strCut v (some 1) none)) (isNotSame _) (EvB.cmp (Ev.v (udmCall kp kr hpair ?_ ?_)) (Ev.v (Ev.cmp (Ev.v (Ev.name ho4)) (Ev.v (Ev.cutS (Ev.sub (EvV.name h4.ways rfl) (Ev.v (Ev.name hp4)) (IdxOk.dict (by rw [getK_toK, hv]; rfl)) fun _ _ => rfl) (.some .int) .none (Nat.le_trans hvl (by decide)) (Nat.le_trans hcut (by decide)))) .inS rfl)) .isNotB rfl)) (X.nil ⟨h4, hp4, hh4⟩)
        · rw [hho] at hh4
          exact Ev.methS F.slot_str_upper F.type_str_upper (Ev.name hh4) EvLs.nil (MethV.upper (by rw [hKv]; exact Nat.le_trans a6 (by decide)))
        · refine Ev.bin (Ev.v .str) (Ev.v (Ev.sub (EvV.name h4.hosts rfl) (Ev.v (Ev.name ho4)) (IdxOk.dict (by rw [host_get ho, hou])) fun _ _ => rfl)) (BinOk.addS (a := ".") (b := hostTxt u) ?_)
          have : ("." : Str).length = 1 := rfl
          rw [hKu]; simp only [sizeLine]; omega
      · rintro V ⟨h3, hp3, hh3⟩
        exact law_hosts kp kr hx hlk hst hq h3 hp3 hh3
  · intro σ' hI
    exact law_counts kp rok hm hpm hI.cells hI.rows hI.exits
end
end Mine
end
section
open PySem PySem.Spec PySem.Calls PyProof.Rows PySem.W
namespace Mine
variable {p : Program} {w : World} {K : Frag} {n : Nat} {env : Env} {σ : Store} {N N' : Store → Prop} {R : D → Prop} {rest : List Stmt}
/-! the text -/
theorem sa_nil (x : Str) : x ++ ("" : Str) = x := by
  have : (x.cps ++ #[]) = x.cps := Array.append_empty
  show (⟨x.cps ++ #[]⟩ : Str) = x
  rw [this]
theorem sa_assoc (x y z : Str) : x ++ y ++ z = x ++ (y ++ z) := by
  show (⟨x.cps ++ y.cps ++ z.cps⟩ : Str) = ⟨x.cps ++ (y.cps ++ z.cps)⟩
  rw [Array.append_assoc]
theorem join_foldl : ∀ (l : List Str) (acc : Str), acc ++ Txt.join "" l = l.foldl (· ++ ·) acc
  | [], acc => sa_nil acc
  | [x], acc => by
    have e : Txt.join "" [x] = x := StrLaws.glued_eq_join "" [x]
    rw [e]; rfl
  | x :: y :: r, acc => by
    have e : Txt.join "" (x :: y :: r) = x ++ "" ++ Txt.join "" (y :: r) := by
      have e1 : Txt.join "" (x :: y :: r) = Str.join "" (x :: y :: r) := StrLaws.glued_eq_join "" (x :: y :: r)
      have e2 : Txt.join "" (y :: r) = Str.join "" (y :: r) := StrLaws.glued_eq_join "" (y :: r)
      rw [e1, e2, PyProof.Rows.join_cons_cons]
    rw [e, sa_nil, ← sa_assoc, join_foldl (y :: r) (acc ++ x)]
    rfl
theorem join_pair (a b : Str) : Txt.join "" [a, b] = a ++ b := by
  have e : Txt.join "" [a, b] = a ++ "" ++ b := by
    have e1 : Txt.join "" [a, b] = Str.join "" [a, b] := StrLaws.glued_eq_join "" [a, b]
    rw [e1, PyProof.Rows.join_cons_cons, PyProof.Rows.join_one]
  rw [e, sa_nil]
noncomputable def dueB : Str := "#\n#\n# #  \t. .\n."
noncomputable def dueL (xs : List Str) : Str := xs.foldl (fun acc x => acc ++ "\n" ++ x) dueB
theorem bot_txt : bot.1 ++ bot.2 = dueB := by decide +kernel
theorem pile_txt (xs : List Str) : Txt.join "" (glued (bot :: xs.map fun x => (("\n" : Str), x))) = dueL xs := by
  have h := join_foldl (glued (bot :: xs.map fun x => (("\n" : Str), x))) ""
  have e0 : ∀ x : Str, ("" : Str) ++ x = x := fun x => by
    show (⟨#[] ++ x.cps⟩ : Str) = x
    rw [Array.empty_append]
  rw [e0] at h
  rw [h]
  unfold glued dueL
  rw [List.map_cons, List.foldl_cons, e0, join_pair, bot_txt, List.map_map, List.foldl_map]
  congr 1
  funext acc x
  show acc ++ Txt.join "" ["\n", x] = _
  rw [join_pair, sa_assoc]
theorem due_snoc (xs : List Str) (x : Str) : dueL (xs ++ [x]) = dueL xs ++ "\n" ++ x := by unfold dueL; rw [List.foldl_append]; rfl
theorem due_len : ∀ (xs : List Str), (dueL xs).length = 15 + (xs.map fun x => 1 + x.length).sum := by
  have g : ∀ (xs : List Str) (acc : Str), (xs.foldl (fun (acc x : Str) => acc ++ "\n" ++ x) acc).length = acc.length + (xs.map fun x => 1 + x.length).sum := by
    intro xs
    induction xs with
    | nil => intro acc; rfl
    | cons x xs ih =>
      intro acc
      rw [List.foldl_cons, ih, str_len_append, str_len_append, List.map_cons, List.sum_cons]
      have : ("\n" : Str).length = 1 := rfl
      omega
  intro xs
  unfold dueL
  rw [g]; rfl
theorem pile_len (xs : List Str) : (lens (bot :: xs.map fun x => (("\n" : Str), x))).sum = ((dueL xs).length : Int) := by
  rw [due_len]
  unfold lens
  rw [List.map_cons, List.sum_cons, List.map_map]
  have e : ∀ xs : List Str, (xs.map ((fun q : Str × Str => (q.1.length : Int) + q.2.length) ∘ fun x => (("\n" : Str), x))).sum = ((xs.map fun x => 1 + x.length).sum : Nat) := by
    intro xs
    induction xs with
    | nil => rfl
    | cons x xs ih =>
      rw [List.map_cons, List.sum_cons, ih, List.map_cons, List.sum_cons]
      show ((1 : Nat) : Int) + (x.length : Int) + _ = _
      push_cast; rfl
  rw [e]
  have h1 : (bot.1.length : Int) + bot.2.length = 15 := by decide +kernel
  rw [h1]; push_cast; rfl
section
variable {L : Addr} {c0 c1 c2 c3 first : Int} {row : List Str} {s : BSt} {x : Cfg} {stk : Str} {m : Nat} {T : Str}
theorem law_checks (kp : KP p K) (kr : KR K) (hcl : PlainF p w K (.ref 125)) (rok : RowOk row) (hm : m < 64) (hpm : row.Perm (tiesOf m)) (hx : x ∈ cfgs) (hlk : ∀ q ∈ pts4, s.ways.lookup q = cLk x q) (hst : ∀ q ∈ pts4, strIn q stk = !inW s q) (hT : T.length ≤ 2000) (h : LawS c0 c1 c2 c3 row s stk σ)
    (ht : σ.lookup ("text" : Str) = some (.val (.str T))) (hd : σ.lookup ("due" : Str) = some (.val (.str T))) (hs : σ.lookup ("size" : Str) = some (.val (.int (first + (T.length : Int))))) (hf : σ.lookup ("first" : Str) = some (.val (.int first))) (hpa : σ.lookup ("parts" : Str) = some (.val (.int ((row.length + 1 : Nat) : Int)))) :
    X p w K (n + 3) (callEnvC fLaw L 194) σ (lawBody.drop 13) N (· = .bool true) := by
  have hz6 : ∀ {m : Nat}, m ≤ 1000 → m ≤ sizeLine := fun h => Nat.le_trans h (by decide)
  have hlen := rok.len
  have lenRow : ∀ {q1 q2 q3 : Pos}, Ev p w K (n + 3) (callEnvC fLaw L 194) σ (.Call (.Name "len" q1) [.Name "row" q2] [] q3) (.int (row.length : Nat)) := by
    have := FunV.lenL (p := p) (w := w) (K := K) (n := n + 3) (ds := row.map .str) (by rw [List.length_map]; exact hz6 (by omega))
    rw [List.length_map] at this
    intros
    exact Ev.call1 (EvG.b kp.kx 1) .bi (EvV.name h.rows rfl) this
  have hTT : (T != T) = false := by simp
  have hfi : ((first + (T.length : Int)) != (first + (T.length : Int))) = false := by simp
  have hri : (((row.length + 1 : Nat) : Int) != ((row.length : Nat) : Int) + 1) = false := by simp
  refine X.iteF (EvB.to (b := ((T != T) || (((first + (T.length : Int)) != (first + (T.length : Int))) || ((((row.length + 1 : Nat) : Int) != ((row.length : Nat) : Int) + 1) || false)))) (by rw [hTT, hfi, hri]; rfl) (EvB.ops (EvBs.orC (EvB.cmp (Ev.v (Ev.name ht)) (Ev.v (Ev.name hd)) .neS rfl) fun _ => EvBs.orC (EvB.cmp (Ev.v (Ev.name hs)) (Ev.v (Ev.bin (Ev.v (Ev.name hf)) (Ev.v (Ev.call1 (EvG.b kp.kx 1) .bi (EvV.name hd rfl) (.lenS (Nat.le_trans hT (by decide))))) .addI)) .neI rfl) fun _ =>
    EvBs.orC (EvB.cmp (Ev.v (Ev.name hpa)) (Ev.v (Ev.bin (Ev.v lenRow) (Ev.v .int) .addI)) .neI rfl) fun _ => EvBs.orN))) ?_
  have hsame : (!((("" : Str) == "") && (("" : Str) == ""))) = false := by decide
  refine X.iteF (EvB.to (b := ((!((("" : Str) == "") && (("" : Str) == ""))) || (((0 : Int) != 0) || (false || false)))) (by rw [hsame]; rfl) (EvB.ops (EvBs.orC (EvB.cmp (Ev.v (Ev.pop0 kp (EvG.g kp.kx 2) hcl rfl rfl rfl)) (Ev.v (Ev.tup (.cons .str (EvLs.one .str)) (show (2 : Nat) ≤ sizeLine by decide))) .neT2 rfl) fun _ => EvBs.orC (EvB.cmp (Ev.v (Ev.len0 kp (EvG.b kp.kx 1) (EvG.g kp.kx 2) hcl rfl rfl rfl)) (Ev.v .int) .neI rfl) fun _ =>
    EvBs.orC (EvB.cmp (Ev.v (Ev.push0 kp (EvG.g kp.kx 2) hcl (Ev.name hf) (.cons .str (EvLs.one .str)) rfl rfl rfl rfl rfl)) (Ev.v .cNone) .isNotN rfl) fun _ => EvBs.orN))) ?_
  exact law_points kp kr rok hm hpm hx hlk hst h
end
end Mine
end
section
open PySem PySem.Spec PySem.Calls PyProof.Rows PySem.W
namespace Mine
variable {p : Program} {w : World} {K : Frag} {n : Nat} {env : Env} {σ : Store} {N N' : Store → Prop} {R : D → Prop} {rest : List Stmt}
theorem line_cut : ∀ t ∈ ties, ∀ v ∈ whites, strCut (t ++ v) none (some 2) = t ∧ t.length = 2 := by decide +kernel
section
variable {L : Addr} {c0 c1 c2 c3 first : Int} {row : List Str} {s : BSt} {x : Cfg} {stk : Str} {m : Nat} {wh : Str → Str}
theorem line_len {t : Str} (ht : t ∈ ties) (hw : wh t ∈ whites) : (lineNow s wh t).length ≤ 100 := (line_ok _ (lineNow_mem ht hw)).2.2.1
theorem sum_le {B : Nat} : ∀ (xs : List Str), (∀ x ∈ xs, x.length ≤ B) → (xs.map fun x => 1 + x.length).sum ≤ xs.length * (1 + B)
  | [], _ => by simp
  | a :: xs, h => by
    have ih := sum_le xs fun b hb => h b (List.mem_cons_of_mem _ hb)
    have := h a List.mem_cons_self
    rw [List.map_cons, List.sum_cons, List.length_cons, Nat.succ_mul]
    omega
theorem law_due (kp : KP p K) (kr : KR K) (hcl : PlainF p w K (.ref 125)) (rok : RowOk row) (hm : m < 64) (hpm : row.Perm (tiesOf m)) (hx : x ∈ cfgs) (hlk : ∀ q ∈ pts4, s.ways.lookup q = cLk x q) (hst : ∀ q ∈ pts4, strIn q stk = !inW s q) (hwh : ∀ t ∈ row, wh t ∈ whites)
    (hsy : ∀ t ∈ row, GoodW row s.ways t ∧ staysL row s.ways t = !decide (t ∈ s.asked)) (h : LawS c0 c1 c2 c3 row s stk σ)
    (hl : σ.lookup ("lines" : Str) = some (.val (.list (row.map fun t => .str (t ++ wh t))))) (ht : σ.lookup ("text" : Str) = some (.val (.str (Txt.join "" (glued (tops s row wh).reverse))))) (hs : σ.lookup ("size" : Str) = some (.val (.int (first + (lens (tops s row wh).reverse).sum))))
    (hf : σ.lookup ("first" : Str) = some (.val (.int first))) (hpa : σ.lookup ("parts" : Str) = some (.val (.int ((row.length + 1 : Nat) : Int)))) :
    X p w K (n + 3) (callEnvC fLaw L 194) σ (lawBody.drop 11) N (· = .bool true) := by
  have hz6 : ∀ {m : Nat}, m ≤ 1000 → m ≤ sizeLine := fun h => Nat.le_trans h (by decide)
  have hlen := rok.len
  generalize hxs : (row.reverse.map (lineNow s wh)) = xs
  have htp : (tops s row wh).reverse = bot :: xs.map fun y => (("\n" : Str), y) := by
    rw [tops, List.reverse_append, ← List.map_reverse, ← hxs, List.map_map]
    rfl
  rw [htp, pile_txt] at ht
  rw [htp, pile_len] at hs
  have hxl : xs.length ≤ 6 := by rw [← hxs, List.length_map, List.length_reverse]; exact hlen
  have hx100 : ∀ y ∈ xs, y.length ≤ 100 := fun y hy => by
    rw [← hxs] at hy
    obtain ⟨t, htm, rfl⟩ := List.mem_map.mp hy
    have := List.mem_reverse.mp htm
    exact line_len (rok.sub t this) (hwh t this)
  have due2 : ∀ ys : List Str, ys.length ≤ 6 → (∀ y ∈ ys, y.length ≤ 100) → (dueL ys).length ≤ 700 := fun ys h1 h2 => by
    rw [due_len]
    have h3 := sum_le ys h2
    have h4 : ys.length * (1 + 100) ≤ 6 * (1 + 100) := Nat.mul_le_mul_right _ h1
    omega
  refine X.assign (d := .str dueB) .str (.inl rfl) (by decide) rfl ?_
  refine X.for (tp := false) (ds := (row.map fun t => D.str (t ++ wh t)).reverse) (f := fun d σ => put σ "line" (.val d)) (fun i σ' => σ'.lookup ("due" : Str) = some (.val (.str (dueL (xs.take i)))) ∧ LawS c0 c1 c2 c3 row s stk σ' ∧ σ'.lookup ("text" : Str) = some (.val (.str (dueL xs))) ∧ σ'.lookup ("size" : Str) = some (.val (.int (first + ((dueL xs).length : Int)))) ∧
      σ'.lookup ("first" : Str) = some (.val (.int first)) ∧ σ'.lookup ("parts" : Str) = some (.val (.int ((row.length + 1 : Nat) : Int))))
    (EvW.list (Ev.rev (EvV.name (lkN hl) rfl) (Ev.neg .int) (by rw [List.length_map]; exact hz6 (by omega)))) (cnOk (by decide)) (fun d _ => Asg.name (.inl rfl) (by decide)) .name ⟨lkE, h.put (by decide), lkN ht, lkN hs, lkN hf, lkN hpa⟩ ?_ ?_
  · rintro i dd σ' hd ⟨h1, h2, h3, h4, h5, h6⟩
    rw [← List.map_reverse, List.getElem?_map] at hd
    cases hg : row.reverse[i]? with
    | none => rw [hg] at hd; cases hd
    | some t =>
    rw [hg] at hd
    obtain rfl : dd = .str (t ++ wh t) := (Option.some.inj hd).symm
    have htr : t ∈ row := List.mem_reverse.mp (List.mem_of_getElem? hg)
    have htt := rok.sub t htr
    obtain ⟨hct, htl⟩ := line_cut t htt (wh t) (hwh t htr)
    obtain ⟨gw, hstay⟩ := hsy t htr
    have hxi : xs[i]? = some (lineNow s wh t) := by rw [← hxs, List.getElem?_map, hg]; rfl
    have htk : xs.take (i + 1) = xs.take i ++ [lineNow s wh t] := by rw [List.take_add_one, hxi]; rfl
    have hll := (line_tie t htt (wh t) (hwh t htr)).2.2.2.2.1
    have hdl := due2 (xs.take i) (by rw [List.length_take]; exact Nat.le_trans (Nat.min_le_right _ _) hxl) fun y hy => hx100 y (List.take_subset _ _ hy)
    have cut : ∀ {S : Store} {q1 q2 q3 q4 : Pos} {k : Nat}, S.lookup ("line" : Str) = some (.val (.str (t ++ wh t))) → Ev p w K (n + 3) (callEnvC fLaw L 194) S (.Subscript (.Name "line" q1) (.Slice none (some (.Constant (.int 2) k q2)) none q3) q4) (.str t) := fun hS =>
      Ev.to (d := .str (strCut (t ++ wh t) none (some 2))) (by rw [hct]) (Ev.cutS (Ev.name hS) .none (.some .int) (Nat.le_trans hll (by decide)) (by rw [hct, htl]; decide))
    have g2 : LawS c0 c1 c2 c3 row s stk (put σ' "line" (.val (.str (t ++ wh t)))) := h2.put (by decide)
    have hval : (if staysL row s.ways t = true then D.str (t ++ wh t) else D.str ("# " ++ t)) = D.str (lineNow s wh t) := by
      rw [hstay]
      unfold lineNow
      by_cases ha : t ∈ s.asked
      · rw [if_pos ha]; simp [ha]
      · rw [if_neg ha]; simp [ha]
    have hn1 : ("\n" : Str).length = 1 := rfl
    have hl100 := hx100 _ (List.mem_of_getElem? hxi)
    refine X.assign (d := .str (dueL (xs.take (i + 1)))) (Ev.to (d := .str (dueL (xs.take i) ++ "\n" ++ lineNow s wh t)) (by rw [htk, due_snoc]) (Ev.bin (Ev.v (Ev.bin (Ev.v (Ev.name (lkN h1))) (Ev.v .str) (BinOk.addS (a := dueL (xs.take i)) (b := "\n") ?_))) (Ev.v (Ev.to hval (Ev.ifx (b := staysL row s.ways t) (EvB.valB (Ev.callF (EvG.g kp.kx 11) (kp.kx.f (fd := fStays) 8).keep (.cons (Ev.name g2.rows) (.cons (Ev.name g2.ways) (EvLs.one (cut lkE)))) rfl (stays_fn (n := n + 2) kp.kx gw hlen)) fun _ => rfl) (fun _ => Ev.name lkE) fun _ => Ev.bin (Ev.v .str) (Ev.v (cut lkE)) (BinOk.addS (a := "# ") (b := t) ?_)))) (BinOk.addS (a := dueL (xs.take i) ++ "\n") (b := lineNow s wh t) ?_)))
      (.inl rfl) (by decide) rfl (X.nil ⟨lkE, g2.put (by decide), lkN (lkN h3), lkN (lkN h4), lkN (lkN h5), lkN (lkN h6)⟩)
    · rw [hn1]; simp only [sizeLine]; omega
    · rw [htl]; exact hz6 (show (4 : Nat) ≤ 1000 by decide)
    · rw [str_len_append, hn1]; simp only [sizeLine]; omega
  · rintro σ' ⟨h1, h2, h3, h4, h5, h6⟩
    have hE : xs.take (row.map fun t => D.str (t ++ wh t)).reverse.length = xs := by
      rw [List.length_reverse, List.length_map]
      exact List.take_of_length_le (by rw [← hxs, List.length_map, List.length_reverse]; exact Nat.le_refl _)
    rw [hE] at h1
    exact law_checks kp kr hcl rok hm hpm hx hlk hst (Nat.le_trans (due2 xs hxl hx100) (by decide)) h2 h3 h1 h4 h5 h6
end
end Mine
end
section
open PySem PySem.Spec PySem.Calls PyProof.Rows PySem.W
namespace Mine
variable {p : Program} {w : World} {K : Frag} {n : Nat} {env : Env} {σ : Store} {N N' : Store → Prop} {R : D → Prop} {rest : List Stmt}
noncomputable def degR (row : List Str) (q : Str) : Nat := (row.filter fun t => strIn q t).length
noncomputable def patI (c2 : Int) (row : List Str) (k : Nat) (q : Str) : Int := ((c2.fdiv (12 ^ k)).fmod 12).fmod (if ((degR row q : Nat) : Int) > 1 then ((degR row q : Nat) : Int) else 1)
theorem patI_nn (c2 : Int) (row : List Str) (k : Nat) (q : Str) : 0 ≤ patI c2 row k q := by
  unfold patI
  apply Int.fmod_nonneg_of_pos
  split <;> omega
noncomputable def whI (c3 : Int) (row : List Str) (t : Str) : Str := whites.getD ((c3.fdiv (4 ^ row.idxOf t)).fmod 4).toNat ""
theorem mod4 (z : Int) : ∃ j : Nat, j < 4 ∧ z.fmod 4 = (j : Int) := by
  have h1 := Int.fmod_nonneg_of_pos z (b := 4) (by decide)
  have h2 := Int.fmod_lt_of_pos z (b := 4) (by decide)
  exact ⟨(z.fmod 4).toNat, by omega, by omega⟩
theorem whI_mem (c3 : Int) (row : List Str) (t : Str) : whI c3 row t ∈ whites := by
  unfold whI
  obtain ⟨j, hj, e⟩ := mod4 (c3.fdiv (4 ^ row.idxOf t))
  rw [e, Int.toNat_natCast]
  have : ∀ j : Fin 4, whites.getD (j : Nat) "" ∈ whites := by decide +kernel
  exact this ⟨j, hj⟩
theorem white_at {j : Nat} (hj : j < 4) : (whites.map D.str)[j]? = some (.str (whites.getD j "")) := by
  match j, hj with
  | 0, _ => rfl
  | 1, _ => rfl
  | 2, _ => rfl
  | 3, _ => rfl
theorem bcd_signs : signs ("bcd" : Str) = pts3.map .str := pts_signs
section
variable {L : Addr} {c0 c1 c2 c3 : Int}
set_option maxHeartbeats 4000000 in
theorem law_mid (kp : KP p K) (kr : KR K) (hcl : PlainF p w K (.ref 125)) (hc : σ.lookup ("cells" : Str) = some (.val (.list [.int c0, .int c1, .int c2, .int c3]))) : X p w K (n + 3) (callEnvC fLaw L 194) σ (lawBody.drop 2) N (· = .bool true) := by
  have hz6 : ∀ {m : Nat}, m ≤ 1000 → m ≤ sizeLine := fun h => Nat.le_trans h (by decide)
  obtain ⟨bb2, bb16, bb15, bb12, bb4, _⟩ := bits2
  have cel : ∀ {S : Store} {q1 q2 q3 : Pos} {k1 : Nat} {j : Nat} {d : D}, S.lookup ("cells" : Str) = some (.val (.list [.int c0, .int c1, .int c2, .int c3])) → ([.int c0, .int c1, .int c2, .int c3] : List D)[j]? = some d → ((j : Int) < 2 ^ 63) → Ev p w K (n + 3) (callEnvC fLaw L 194) S (.Subscript (.Name "cells" q1) (.Constant (.int (j : Int)) k1 q2) q3) d := fun h hj hlt =>
    Ev.sub (EvV.name h rfl) (Ev.v .int) (IdxOk.list (Int.natCast_nonneg _) hlt (by rw [Int.toNat_natCast]; exact hj)) fun _ _ => rfl
  refine X.assign (Ev.callF (EvG.g kp.kx 7) (kp.kx.f (fd := fRow) 4).keep (.cons (cel (j := 0) hc rfl (by decide)) (EvLs.one (cel (j := 1) hc rfl (by decide)))) rfl (row_fn (n := n + 2) kp.kx (number := c0) (order := c1))) (.inr rfl) (by decide) rfl ?_
  have rok := row_ok c0 c1
  obtain ⟨m, hm, hpm⟩ := row_mask c0 c1
  generalize rowOf c0 c1 = row at rok hpm ⊢
  have hlen := rok.len
  refine X.newK0 (.inl rfl) (by decide) rfl fun pa => ?_
  have r1 : (put (put σ "row" (.val (.list (row.map .str)))) "patience" (.dct pa [])).lookup ("row" : Str) = some (.val (.list (row.map .str))) := lkN lkE
  have c1' : (put (put σ "row" (.val (.list (row.map .str)))) "patience" (.dct pa [])).lookup ("cells" : Str) = some (.val (.list [.int c0, .int c1, .int c2, .int c3])) := lkN (lkN hc)
  have p1' : (put (put σ "row" (.val (.list (row.map .str)))) "patience" (.dct pa [])).lookup ("patience" : Str) = some (.dct pa []) := lkE
  generalize put (put σ "row" (.val (.list (row.map .str)))) "patience" (.dct pa []) = S at r1 c1' p1' ⊢
  refine X.forEnum (ds := pts3.map .str) (fun i σ' => (∃ a, σ'.lookup ("patience" : Str) = some (.dct a ((patL (patI c2 row 0 "b") (patI c2 row 1 "c") (patI c2 row 2 "d")).take i))) ∧ σ'.lookup ("row" : Str) = some (.val (.list (row.map .str))) ∧ σ'.lookup ("cells" : Str) = some (.val (.list [.int c0, .int c1, .int c2, .int c3])))
    (bcd_signs ▸ EvN.str (by decide +kernel) (EvG.b kp.kx 5) .str) (cnOk (by decide)) (.inl rfl) (by decide) (.inr rfl) (by decide) ⟨⟨pa, p1'⟩, r1, c1'⟩ ?_ ?_
  · rintro i dd σ' hd ⟨⟨a, h1⟩, h2, h3⟩
    rw [List.getElem?_map] at hd
    cases hg : pts3[i]? with
    | none => rw [hg] at hd; cases hd
    | some q =>
    rw [hg] at hd
    obtain rfl : dd = .str q := (Option.some.inj hd).symm
    have hi3 : i < 3 := by
      rcases Nat.lt_or_ge i pts3.length with h | h
      · exact h
      · rw [List.getElem?_eq_none h] at hg; cases hg
    have g1 : (put (put σ' "k" (.val (.int (i : Nat)))) "point" (.val (.str q))).lookup ("patience" : Str) = some (.dct a ((patL (patI c2 row 0 "b") (patI c2 row 1 "c") (patI c2 row 2 "d")).take i)) := lkN (lkN h1)
    have g2 : (put (put σ' "k" (.val (.int (i : Nat)))) "point" (.val (.str q))).lookup ("row" : Str) = some (.val (.list (row.map .str))) := lkN (lkN h2)
    have g3 : (put (put σ' "k" (.val (.int (i : Nat)))) "point" (.val (.str q))).lookup ("cells" : Str) = some (.val (.list [.int c0, .int c1, .int c2, .int c3])) := lkN (lkN h3)
    have gk : (put (put σ' "k" (.val (.int (i : Nat)))) "point" (.val (.str q))).lookup ("k" : Str) = some (.val (.int (i : Nat))) := lkN lkE
    have gp : (put (put σ' "k" (.val (.int (i : Nat)))) "point" (.val (.str q))).lookup ("point" : Str) = some (.val (.str q)) := lkE
    generalize put (put σ' "k" (.val (.int (i : Nat)))) "point" (.val (.str q)) = U at g1 g2 g3 gk gp ⊢
    have hne : (if ((degR row q : Nat) : Int) > 1 then ((degR row q : Nat) : Int) else 1) ≠ 0 := by split <;> omega
    have h12 : ((12 : Int) ^ i) ≠ 0 := Int.pow_ne_zero (by decide)
    have h12s : ((12 : Int) ^ i).natAbs < 1073741824 := by
      have : ∀ i : Fin 3, ((12 : Int) ^ (i : Nat)).natAbs < 1073741824 := by decide
      exact this ⟨i, hi3⟩
    refine X.step (Stp.setK (d := .int (patI c2 row i q)) g1 (Ev.name gp) (Ev.bin (Ev.v (Ev.bin (Ev.v (Ev.bin (Ev.v (cel (j := 2) g3 rfl (by decide))) (Ev.v (Ev.bin (Ev.v .int) (Ev.v (Ev.name gk)) (pow_int 12 (by omega) (by rw [bb12]; decide)))) (.fdivI h12 h12s))) (Ev.v .int) (.modI (by decide)))) (Ev.v (Ev.callL (EvG.b kp.kx 10) .bi (.cons .int (EvLs.one (Ev.call1 (EvG.b kp.kx 1) .bi (Ev.v (Ev.comp (xs := row) (enc := .str) (cl := [("point", L + 3)]) (caps := ["point"]) (keep := fun t => strIn q t) (g := .str) (binds := fun t => [("tie", .str t)]) (tp := false)
      { kind := rfl, names := by decide, clos := rfl, cap := ?_, asg := fun C t ht => AsgC.name rfl rfl (by decide), tests := ?_, elt := fun C t ht _ => Ev.name lkB, size := hz6 (by omega) } (EvW.list (Ev.name g2)) .name)) ?_))) rfl (FunL.max2 (a := 1) (b := ((degR row q : Nat) : Int))))) (.modI hne)) ?_) (X.nil ⟨⟨a, ?_⟩, lkN g2, lkN g3⟩)
    · intro C y hy
      obtain rfl : y = ("point" : Str) := by simpa using hy
      exact ⟨L + 3, .inl rfl, rfl, .inl rfl, rfl⟩
    · intro C t ht
      exact EvT.one (EvB.cmp (Ev.v (Ev.name (lkC gp rfl (by decide)))) (Ev.v (Ev.name lkB)) .inS rfl)
    · have := FunV.lenL (p := p) (w := w) (K := K) (n := n + 3) (ds := (row.filter fun t => strIn q t).map .str) (by rw [List.length_map]; exact hz6 (Nat.le_trans (List.length_filter_le _ _) (by omega)))
      rw [List.length_map] at this
      exact this
    · rw [List.length_take]; exact hz6 (Nat.le_trans (Nat.min_le_left _ _) (by omega))
    · rw [lkE]
      match i, hi3, hg with
      | 0, _, hg => cases hg; rfl
      | 1, _, hg => cases hg; rfl
      | 2, _, hg => cases hg; rfl
  · rintro σ' ⟨⟨a, h1⟩, h2, h3⟩
    have htk : (patL (patI c2 row 0 "b") (patI c2 row 1 "c") (patI c2 row 2 "d")).take (pts3.map D.str).length = patL (patI c2 row 0 "b") (patI c2 row 1 "c") (patI c2 row 2 "d") := rfl
    rw [htk] at h1
    have nn : 0 ≤ patI c2 row 0 "b" ∧ 0 ≤ patI c2 row 1 "c" ∧ 0 ≤ patI c2 row 2 "d" := ⟨patI_nn _ _ _ _, patI_nn _ _ _ _, patI_nn _ _ _ _⟩
    generalize patI c2 row 0 "b" = pb at h1 nn
    generalize patI c2 row 1 "c" = pc at h1 nn
    generalize patI c2 row 2 "d" = pd at h1 nn
    refine X.kd fun hkd => X.freeze h1 rfl hkd ?_
    have g1 : (put σ' "patience" (.val (.dict (patL pb pc pd)))).lookup ("patience" : Str) = some (.val (.dict (patL pb pc pd))) := lkE
    have g2 : (put σ' "patience" (.val (.dict (patL pb pc pd)))).lookup ("row" : Str) = some (.val (.list (row.map .str))) := lkN h2
    have g3 : (put σ' "patience" (.val (.dict (patL pb pc pd)))).lookup ("cells" : Str) = some (.val (.list [.int c0, .int c1, .int c2, .int c3])) := lkN h3
    generalize put σ' "patience" (.val (.dict (patL pb pc pd))) = U at g1 g2 g3 ⊢
    -- lines
    refine X.assignComp (xs := row) (enc := .str) (cl := [("row", L + 2), ("cells", L + 1)]) (caps := ["cells", "row"]) (keep := fun _ => true) (g := fun t => .str (t ++ whI c3 row t)) (binds := fun t => [("tie", .str t)]) (tp := false)
      { kind := rfl, names := by decide, clos := rfl, cap := ?_, asg := fun C t ht => AsgC.name rfl rfl (by decide), tests := fun C t ht => EvT.nil, elt := ?_, size := hz6 (by omega) } (EvW.list (Ev.name g2)) .name (cnOk (by decide)) rfl rfl (by decide) ?_
    · intro C y hy
      rcases List.mem_cons.mp hy with rfl | hy
      · exact ⟨L + 1, .inl rfl, rfl, .inl rfl, rfl⟩
      · obtain rfl : y = ("row" : Str) := by simpa using hy
        exact ⟨L + 2, .inl rfl, rfl, .inl rfl, rfl⟩
    · intro C t ht _
      have e1 : (ceS U ["cells", "row"] [("tie", .str t)]).lookup ("cells" : Str) = some (.val (.list [.int c0, .int c1, .int c2, .int c3])) := lkC g3 rfl (by decide)
      have e2 : (ceS U ["cells", "row"] [("tie", .str t)]).lookup ("row" : Str) = some (.val (.list (row.map .str))) := lkC g2 rfl (by decide)
      have hidx : row.idxOf t < 6 := by have := List.idxOf_lt_length_iff.mpr ht; omega
      have h4 : ((4 : Int) ^ row.idxOf t) ≠ 0 := Int.pow_ne_zero (by decide)
      have h4s : ((4 : Int) ^ row.idxOf t).natAbs < 1073741824 := by
        have : ∀ i : Fin 6, ((4 : Int) ^ (i : Nat)).natAbs < 1073741824 := by decide
        exact this ⟨_, hidx⟩
      obtain ⟨j, hj, hje⟩ := mod4 (c3.fdiv (4 ^ row.idxOf t))
      have hwe : whI c3 row t = whites.getD j "" := by unfold whI; rw [hje, Int.toNat_natCast]
      have htw := line_tie t (rok.sub t ht) (whI c3 row t) (whI_mem _ _ _)
      rw [hwe]
      refine Ev.bin (Ev.v (Ev.name lkB)) (Ev.v (Ev.sub (Ev.v (Ev.list (ds := whites.map .str) (.cons .str (.cons .str (.cons .str (EvLs.one .str)))) (show (4 : Nat) ≤ sizeLine by decide))) (Ev.v (Ev.to (d := .int ((c3.fdiv (4 ^ row.idxOf t)).fmod 4)) (by rw [hje]) (Ev.bin (Ev.v (Ev.bin (Ev.v (Ev.sub (EvV.name e1 rfl) (Ev.v .int) (IdxOk.list (d := .int c3) (by decide) (by decide) rfl) fun _ _ => rfl)) (Ev.v (Ev.bin (Ev.v .int) (Ev.v (Ev.methL F.slot_list_index F.type_list_index (Ev.v (Ev.name e2)) (EvLs.one (Ev.name lkB)) (.index ht (by omega)))) (pow_int 4 (by omega) (by rw [bb4]; decide)))) (.fdivI h4 h4s))) (Ev.v .int) (.modI (by decide)))))
        (IdxOk.list (Int.natCast_nonneg _) (by omega) (by rw [Int.toNat_natCast]; exact white_at hj)) fun _ _ => rfl)) (BinOk.addS (a := t) (b := whites.getD j "") ?_)
      have := htw.2.2.2.2.1
      rw [str_len_append, hwe] at this
      exact Nat.le_trans this (by decide)
    rw [filter_tt]
    have hwh : ∀ t ∈ row, whI c3 row t ∈ whites := fun t _ => whI_mem _ _ _
    generalize whI c3 row = wh at hwh ⊢
    have f1 : (put U "lines" (.val (.list (row.map fun t => .str (t ++ wh t))))).lookup ("patience" : Str) = some (.val (.dict (patL pb pc pd))) := lkN g1
    have f2 : (put U "lines" (.val (.list (row.map fun t => .str (t ++ wh t))))).lookup ("row" : Str) = some (.val (.list (row.map .str))) := lkN g2
    have f3 : (put U "lines" (.val (.list (row.map fun t => .str (t ++ wh t))))).lookup ("cells" : Str) = some (.val (.list [.int c0, .int c1, .int c2, .int c3])) := lkN g3
    have f4 : (put U "lines" (.val (.list (row.map fun t => .str (t ++ wh t))))).lookup ("lines" : Str) = some (.val (.list (row.map fun t => .str (t ++ wh t)))) := lkE
    generalize put U "lines" (.val (.list (row.map fun t => .str (t ++ wh t)))) = V at f1 f2 f3 f4 ⊢
    obtain ⟨x1, x2, x3⟩ := exits_ok row
    refine X.assign (d := .list ((exitsOf row).map exitD)) (Ev.callF (EvG.g kp.kx 8) (kp.kx.f (fd := fExits) 5).keep (EvLs.one (Ev.name f2)) rfl (exits_fn (n := n + 2) kp.kx rok.sub hlen)) (.inl rfl) (by decide) rfl ?_
    refine X.assign (d := .str (stuckS (pv pb pc pd) (exitsOf row) "")) (Ev.callF (EvG.g kp.kx 9) (kp.kx.f (fd := fStuck) 6).keep (.cons (Ev.name lkE) (EvLs.one (Ev.name (lkN f1)))) rfl (stuck_fn (n := n + 2) kp.kx x1 x2 x3)) (.inl rfl) (by decide) rfl ?_
    refine X.assign (d := .dict (toK .str (burnIt row (burn0 pb pc pd) row.length).ways)) (Ev.callF (EvG.g kp.kx 10) (kp.kx.f (fd := fBurn) 7).keep (.cons (Ev.name (lkN (lkN f2))) (EvLs.one (Ev.name (lkN (lkN f1))))) rfl (burn_fn (n := n + 2) kp.kx rok.sub hlen)) (.inl rfl) (by decide) rfl ?_
    refine X.assign (d := .int (c3.fmod 10)) (Ev.bin (Ev.v (cel (j := 3) (lkN (lkN (lkN f3))) rfl (by decide))) (Ev.v .int) (.modI (by decide))) (.inl rfl) (by decide) rfl ?_
    have hf : 0 ≤ c3.fmod 10 ∧ c3.fmod 10 ≤ 1000 := by
      have h1 := Int.fmod_nonneg_of_pos c3 (b := 10) (by decide)
      have h2 := Int.fmod_lt_of_pos c3 (b := 10) (by decide)
      exact ⟨h1, by omega⟩
    generalize c3.fmod 10 = first at hf ⊢
    refine X.asg (Ev.callF (EvG.g kp.kx 12) (kp.kx.f (fd := fFire) 9).keep (.cons (Ev.name (lkN (lkN (lkN (lkN f4))))) (.cons (Ev.name (lkN (lkN (lkN (lkN f1))))) (EvLs.one (Ev.name lkE)))) rfl (fire_fn (n := n) kp kr hcl rok.sub rok.nd hlen hwh hf)) (Asg.four (.inl rfl) (by decide) (.inl rfl) (by decide) (.inl rfl) (by decide) (.inl rfl) (by decide)) rfl rfl rfl ?_
    obtain ⟨x, H⟩ := Hist.it rok nn row.length
    have hend := fire_end (b := pb) (c := pc) (d := pd) rok
    have hst : ∀ q ∈ pts4, strIn q (stuckS (pv pb pc pd) (exitsOf row) "") = !inW (burnIt row (burn0 pb pc pd) row.length) q := fun q hq => dhar rok nn hq
    have hnd := ways_nd (row := row) (b := pb) (c := pc) (d := pd) row.length
    have hgl := (GoodB.it (b := pb) (c := pc) (d := pd) rok.sub row.length).len
    generalize burnIt row (burn0 pb pc pd) row.length = s at H hend hst hnd hgl ⊢
    generalize stuckS (pv pb pc pd) (exitsOf row) "" = stk at hst ⊢
    refine law_due (c0 := c0) (c1 := c1) (c2 := c2) (c3 := c3) (x := x) (first := first) (m := m) kp kr hcl rok hm hpm H.cfg H.lk hst hwh (fun t ht => stays_end rok H hend ht (fun z hz => Nat.le_trans (hgl z hz) (by omega)) hnd) ?_ ?_ ?_ ?_ ?_ ?_
    · exact ⟨lkN (lkN (lkN (lkN (lkN (lkN (lkN (lkN f3))))))), lkN (lkN (lkN (lkN (lkN (lkN (lkN (lkN f2))))))), lkN (lkN (lkN (lkN (lkN (lkN (lkN lkE)))))), lkN (lkN (lkN (lkN (lkN (lkN lkE))))), lkN (lkN (lkN (lkN (lkN lkE)))), lkN (lkN (lkN lkE))⟩
    · exact lkN (lkN (lkN (lkN (lkN (lkN (lkN (lkN f4)))))))
    · exact lkN (lkN lkE)
    · exact lkN lkE
    · exact lkN (lkN (lkN (lkN lkE)))
    · exact lkE
end
end Mine
end
section
open PySem PySem.Spec PySem.Calls PyProof.Rows PySem.W
namespace Mine
variable {p : Program} {w : World} {K : Frag} {n : Nat} {env : Env} {σ : Store} {N N' : Store → Prop} {R : D → Prop} {rest : List Stmt}
/-- law -/
theorem law_fn (kp : KP p K) (kr : KR K) (hcl : PlainF p w K (.ref 125)) {script : List Int} (hs : script.length ≤ 63) : Fn p w K (n + 4) 194 [.list (script.map .int)] (.bool true) := by
  refine Fn.intro (names := ["script"]) (kp.kx.f (fd := fLaw) 10) rfl rfl rfl rfl rfl rfl rfl ?_ rfl (by decide) (by decide) (by decide) (by decide) fun L => ?_
  · intro vs h; match vs, h with
    | [a], _ => rfl
  refine Stp.newL (ds := [.int 2080, .int 37, .int 1, .int 283]) (.cons .int (.cons .int (.cons .int (EvLs.one .int)))) (.inr rfl) (by decide) (show (4 : Nat) ≤ sizeLine by decide) rfl fun a => ?_
  have lenS : FunV p w K (n + 3) (.builtin "len") (.list (script.map .int)) (.int (script.length : Nat)) := by
    have := FunV.lenL (p := p) (w := w) (K := K) (n := n + 3) (ds := script.map .int) (by rw [List.length_map]; exact Nat.le_trans hs (by decide))
    rw [List.length_map] at this; exact this
  refine X.for (tp := false) (ds := (List.range script.length).map fun i => .int (i : Nat)) (f := fun d σ => put σ "k" (.val d)) (fun i σ' => (∃ a c0 c1 c2 c3, σ'.lookup ("cells" : Str) = some (.lst a [.int c0, .int c1, .int c2, .int c3])) ∧ σ'.lookup ("script" : Str) = some (.val (.list (script.map .int))))
    (EvW.upto kp.kx (by omega) (Ev.call1 (EvG.b kp.kx 1) .bi (Ev.v (Ev.name rfl)) lenS)) (cnOk (by decide)) (fun d _ => Asg.name (.inl rfl) (by decide)) .name ⟨⟨a, _, _, _, _, rfl⟩, rfl⟩ ?_ ?_
  · rintro i dd σ' hd ⟨⟨a, c0, c1, c2, c3, h1⟩, h2⟩
    obtain ⟨hi, rfl⟩ := upto_at hd
    have g1 : (put σ' "k" (.val (.int (i : Nat)))).lookup ("cells" : Str) = some (.lst a [.int c0, .int c1, .int c2, .int c3]) := lkN h1
    have g2 : (put σ' "k" (.val (.int (i : Nat)))).lookup ("script" : Str) = some (.val (.list (script.map .int))) := lkN h2
    have g3 : (put σ' "k" (.val (.int (i : Nat)))).lookup ("k" : Str) = some (.val (.int (i : Nat))) := lkE
    generalize put σ' "k" (.val (.int (i : Nat))) = S at g1 g2 g3 ⊢
    have hm4 : i % 4 < 4 := Nat.mod_lt _ (by decide)
    have k4 : ∀ {q1 q2 q3 : Pos} {k1 : Nat}, Ev p w K (n + 3) (callEnvC fLaw L 194) S (.BinOp (.Name "k" q1) .Mod (.Constant (.int 4) k1 q2) q3) (.int ((i % 4 : Nat) : Int)) := Ev.to (d := .int ((i : Int).fmod 4)) (by rw [show (4 : Int) = ((4 : Nat) : Int) from rfl, nat_mod]) (Ev.bin (Ev.v (Ev.name g3)) (Ev.v .int) (.modI (by decide)))
    obtain ⟨u, hu⟩ : ∃ u, ([.int c0, .int c1, .int c2, .int c3] : List D)[i % 4]? = some (.int u) := by
      match i % 4, hm4 with
      | 0, _ => exact ⟨_, rfl⟩
      | 1, _ => exact ⟨_, rfl⟩
      | 2, _ => exact ⟨_, rfl⟩
      | 3, _ => exact ⟨_, rfl⟩
    have hv : (script.map D.int)[i]? = some (.int script[i]) := by rw [List.getElem?_map, List.getElem?_eq_getElem hi]; rfl
    refine X.step (Stp.setL (i := ((i % 4 : Nat) : Int)) (d := .int (u + script[i])) g1 k4 (Ev.bin (Ev.v (Ev.sub (EvV.name g1 rfl) (Ev.v k4) (IdxOk.list (d := .int u) (Int.natCast_nonneg _) (by omega) (by rw [Int.toNat_natCast]; exact hu)) fun _ _ => rfl)) (Ev.v (Ev.sub (EvV.name g2 rfl) (Ev.v (Ev.name g3)) (IdxOk.list (d := .int script[i]) (Int.natCast_nonneg _) (by omega) (by rw [Int.toNat_natCast]; exact hv)) fun _ _ => rfl)) .addI) (Int.natCast_nonneg _) (by show ((i % 4 : Nat) : Int) < (4 : Nat); omega) (by omega)) (X.nil ⟨?_, lkN g2⟩)
    rw [lkE, Int.toNat_natCast]
    match i % 4, hm4 with
    | 0, _ => exact ⟨a, _, _, _, _, rfl⟩
    | 1, _ => exact ⟨a, _, _, _, _, rfl⟩
    | 2, _ => exact ⟨a, _, _, _, _, rfl⟩
    | 3, _ => exact ⟨a, _, _, _, _, rfl⟩
  · rintro σ' ⟨⟨a, c0, c1, c2, c3, h1⟩, h2⟩
    refine X.kd fun hkd => X.freeze h1 rfl hkd ?_
    exact (law_mid (N := fun _ => D.bool true = .none) kp kr hcl (c0 := c0) (c1 := c1) (c2 := c2) (c3 := c3) lkE)
end Mine
end
section
open PySem PySem.Spec PySem.Calls PyProof.Rows PySem.W
namespace Mine
/-- the written heap but for the two code tables -/
noncomputable def flt (K : Frag) : Frag := K.filter fun z => z.1 != 87 && z.1 != 94
theorem flt_look {K : Frag} {a : Addr} {o : Obj} (h : (flt K).lookup a = some o) : a ≠ 87 ∧ a ≠ 94 ∧ K.lookup a = some o := by
  unfold flt at h
  induction K with
  | nil => simp at h
  | cons z r ih =>
    obtain ⟨z1, z2⟩ := z
    rw [List.filter_cons] at h
    rw [List.lookup_cons]
    by_cases hp : (z1 != 87 && z1 != 94) = true
    · rw [if_pos hp, List.lookup_cons] at h
      by_cases e : a = z1
      · subst e
        simp only [beq_self_eq_true] at h ⊢
        rw [Bool.and_eq_true, bne_iff_ne, bne_iff_ne] at hp
        exact ⟨hp.1, hp.2, h⟩
      · have e' : (a == z1) = false := by simpa using e
        rw [e'] at h ⊢
        exact ih h
    · rw [if_neg hp] at h
      obtain ⟨h1, h2, h3⟩ := ih h
      refine ⟨h1, h2, ?_⟩
      have e' : (a == z1) = false := by
        cases hc : a == z1 with
        | false => rfl
        | true =>
          have := beq_iff_eq.mp hc
          subst this
          exact absurd (by rw [Bool.and_eq_true, bne_iff_ne, bne_iff_ne]; exact ⟨h1, h2⟩) hp
      rw [e']; exact h3
theorem flt_in {K : Frag} {h : Heap} (X : K.In h) : (flt K).In h := fun a o e => X a o (flt_look e).2.2
theorem look_mem {K : Frag} {a : Addr} {o : Obj} (h : K.lookup a = some o) : (a, o) ∈ K := by
  induction K with
  | nil => simp at h
  | cons z r ih =>
    obtain ⟨z1, z2⟩ := z
    rw [List.lookup_cons] at h
    by_cases e : a = z1
    · subst e; simp at h; subst h; exact List.mem_cons_self
    · have e' : (a == z1) = false := by simpa using e
      rw [e'] at h
      exact List.mem_cons_of_mem _ (ih h)
structure AllF (p : Program) (K : Frag) : Prop where
  kp : KP p K
  kr : KR K
  pl : keepIn K (.ref 125) = true
  low : (K.all fun z => decide (z.1 < 195)) = true
  top : ∃ o, K.lookup 194 = some o
  law : nsIn K mainGlobals "law" = some (some (.ref 194))
  bi : nsIn K mainGlobals "__builtins__" = some (some (.ref 4))
theorem AllF.kok {p : Program} {w : World} {K : Frag} (F : AllF p (flt K)) : KOk p w (flt K) where
  off := fun a o e => ⟨(flt_look e).1, (flt_look e).2.1⟩
  low := fun a o e => by
    have := all_of F.low (look_mem e)
    simpa using this
  top := F.top
theorem well_ints {P : Params} {h : Heap} {g : Look} {p : Program} {w : World} : ∀ {ns : List Int} {vs : List Value}, WellAll P h vs (ofPys (ns.map .int)) → RdL p w g (ns.map .int) vs
  | [], vs, x => by
    simp only [List.map_nil, ofPys] at x
    cases x
    simp only [List.map_nil, RdL]
  | a :: ns, vs, x => by
    simp only [List.map_cons, ofPys] at x
    cases x with
    | cons h1 h2 =>
      simp only [List.map_cons, RdL]
      refine ⟨_, _, rfl, ?_, well_ints h2⟩
      simp only [ofPy] at h1
      cases h1 with
      | int i t => exact ⟨t, rfl⟩
theorem kp_old {p : Program} {w : World} {K : Frag} {s s' : Shared} (W : Wd p w K s.heap) (F : AllF p K) (y : Sh s s') : OldK s.heap s'.heap := by
  have tab : ∀ {t c : Addr}, (∃ ps, s.heap.get? t = some (PySem.W.X.tableObj ps) ∧ TriplesOk ps.toList) → CodeRow K c t → Grows s.heap.get? s'.heap t → ∀ o, s.heap.get? t = some o → asItWas s.heap s'.heap t o ∧ ∃ o', s'.heap.get? t = some o' := fun {t c} ht r gr o e => by
    obtain ⟨ps, h1, h2⟩ := ht
    obtain ⟨more, h3, _⟩ := gr ps h1 h2
    rw [h1] at e; cases e
    exact ⟨.inr (.inl ⟨(r.tableAt W.kin h1).isCodeTable, rfl, ps, more, rfl, h3⟩), _, h3⟩
  have a := tab W.ta F.kp.ki.cLen y.kp.ta
  have b := tab W.tb F.kp.ki.cStr y.kp.tb
  refine ⟨fun c o e => ?_, fun c o e => ?_⟩
  · by_cases h1 : c = tA
    · subst h1; exact (a o e).1
    · by_cases h2 : c = tB
      · subst h2; exact (b o e).1
      · exact .inl (y.kp.get c o h1 h2 e)
  · by_cases h1 : c = tA
    · subst h1; exact (a o e).2
    · by_cases h2 : c = tB
      · subst h2; exact (b o e).2
      · exact ⟨o, y.kp.get c o h1 h2 e⟩
theorem law_wp {p p' : Program} {w : World} {K : Frag} {loose : List Str} {mean : ExcName → Option Value} {mg mb : Str → Option Value} {s₁ : Shared} {fa D : Addr} {ns : List Int} {P : Params} {Q E : Value → Shared → Prop} (X : K.In s₁.heap) (F : AllF p (flt K))
    (t1 : K.lookup 87 = some (PySem.W.X.tableObj #[])) (t2 : K.lookup 94 = some (PySem.W.X.tableObj #[])) (T : Top p' loose mean mg mb s₁.heap) (hmg : mg "law" = some (.ref fa)) (hg : s₁.gens = #[]) (hlen : ns.length ≤ 63) (w1 : Well P s₁.heap (.ref D) (ofPy (.list (ns.map .int))))
    (hQ : ∀ s', OldK s₁.heap s'.heap → s'.os = s₁.os → AllBare s'.gens → Q (.bool true) s') : wpAny (model p w) callerA (call (.ref fa) [.ref D]) Q E s₁ := by
  have X' := flt_in X
  have hfa : fa = 194 := by
    have := mg_of X' T.g F.law
    rw [hmg] at this
    cases this; rfl
  subst hfa
  obtain ⟨bm, ob, B⟩ := bmod_of_top T
  have hbm : bm < 195 := by
    have h1 := mg_of X' T.g F.bi
    rw [B.name] at h1
    cases h1; decide
  have W : Wd p w (flt K) s₁.heap := ⟨F.kok, X', T.nolimit, ⟨mg, T.g⟩, ⟨mb, T.b, T.builtins⟩, ⟨#[], X _ _ t1, trivial⟩, ⟨#[], X _ _ t2, trivial⟩, ⟨mg, bm, ob, hbm, B⟩⟩
  have st : StO p w (flt K) [] s₁ := ⟨W, fun a ha => by cases ha⟩
  have ok : Ok 4 callerA := ⟨rfl, by decide, by decide⟩
  simp only [ofPy] at w1
  cases w1 with
  | list ho ha =>
    rename_i vs
    have rl : RdL p w (exc s₁.heap []) [.list (ns.map .int)] [.ref D] := by
      simp only [RdL, Rd]
      exact ⟨_, _, rfl, ⟨D, _, vs, rfl, exc_of (by simp) ho, ⟨0, rfl⟩, well_ints ha⟩, rfl⟩
    refine wpAny_call (law_fn (n := 0) F.kp F.kr (.k F.pl) hlen [] callerA s₁ [.ref D] _ ok st rl fun v s' y r => ?_)
    simp only [Rd] at r
    subst r
    exact hQ s' (kp_old W F y) y.os (y.gens (.of_eq hg))
end Mine
end
section
open PySem PySem.Spec PySem.Calls PyProof.Rows PySem.W
namespace Mine
theorem fin_post (a : List WData) : PySem.Challenge.rw_xt0002_01.row.claim.post a (.bool true) a = true := by
  refine postW_of (X := true) ?_ ?_ rfl
  · show WShape.has _ (.bool true) .bool = true
    first | rfl | simp [WShape.has]
  · show (WTm.eq .res (.lit (.bool true))).value _ _ = some (.bool (true == true))
    exact w_eq_bool (by simp [WTm.value]) w_lit
end Mine
set_option maxHeartbeats 8000000 in
theorem PySem.Challenge.cw_xt0002_01_holds : PySem.Challenge.rw_xt0002_01.Holds := by
  (w_on; o_law; x_head; (case hw => w_witness2))
  intro w s₀ s₁ mg mb G Y fa o pm cd doc dV kV ho hd hcd hD hmg hg args vals as hpre hlay hrd hwl hlo
  have KX := kIn_of Y
  refine Ground.open G ?_
  intro T B D TE TW
  wrow_args hpre hlay hrd hwl hlo
  have hw1 := ‹Well w.params s₁.heap _ (ofPy (PyData.list (List.map PyData.int _)))›
  have hmg' : mg "law" = some (.ref fa) := hmg
  refine Mine.law_wp KX (Mine.AllF.mk ⟨?kx, ?kc, ?km, ?ki⟩ ?kr ?pl ?low ?top ?law ?bi) ?t1 ?t2 T hmg' (by assumption) (by omega) hw1 fun s' h1 h2 h3 => ?fin
  case fin => exact ⟨.inl ⟨_, .bool true, [], rfl, fun _ => rfl, .bool true, Mine.fin_post _, fun _ => ⟨List.nodup_nil, by simp⟩⟩, h1, h2, h3⟩
  case kx =>
    refine ⟨?_, ?_, ?_⟩
    · intro t ht
      simp only [Mine.fnTab, List.mem_cons, List.not_mem_nil, or_false] at ht
      rcases ht with rfl | rfl | rfl | rfl | rfl | rfl | rfl | rfl | rfl | rfl | rfl <;> exact ⟨⟨_, _, _, rfl⟩, ⟨_, _, _, _, rfl, rfl, rfl, rfl⟩⟩
    · intro t ht
      simp only [Mine.gTab, List.mem_cons, List.not_mem_nil, or_false] at ht
      rcases ht with rfl | rfl | rfl | rfl | rfl | rfl | rfl | rfl | rfl | rfl | rfl | rfl | rfl <;> kernel_rfl
    · intro x hx
      simp only [Mine.bTab, List.mem_cons, List.not_mem_nil, or_false] at hx
      rcases hx with rfl | rfl | rfl | rfl | rfl | rfl | rfl | rfl | rfl | rfl | rfl | rfl <;> kernel_rfl
  case kr => exact ⟨⟨_, rfl⟩, by kernel_rfl⟩
  case kc => exact ⟨⟨_, _, _, _, rfl, rfl, rfl, rfl, rfl, rfl⟩, by kernel_rfl, by kernel_rfl, by kernel_rfl, by kernel_rfl, by kernel_rfl, by kernel_rfl, by kernel_rfl, by kernel_rfl, by kernel_rfl, by kernel_rfl, by kernel_rfl, by kernel_rfl, by kernel_rfl, by kernel_rfl⟩
  case km =>
    refine ⟨⟨⟨_, _, _, rfl⟩, ⟨_, _, _, _, rfl, rfl, rfl, rfl⟩⟩, ⟨⟨_, _, _, rfl⟩, ⟨_, _, _, _, rfl, rfl, rfl, rfl⟩⟩, ⟨⟨_, _, _, rfl⟩, ⟨_, _, _, _, rfl, rfl, rfl, rfl⟩⟩, ⟨⟨_, _, _, rfl⟩, ⟨_, _, _, _, rfl, rfl, rfl, rfl⟩⟩, ⟨⟨_, _, _, rfl⟩, ⟨_, _, _, _, rfl, rfl, rfl, rfl⟩⟩, ⟨⟨_, _, _, rfl⟩, ⟨_, _, _, _, rfl, rfl, rfl, rfl⟩⟩, ?_, ?_, by kernel_rfl, ⟨_, _, _, rfl⟩, ⟨_, _, _, _, rfl⟩⟩
    · intro c hc
      simp only [List.mem_cons, List.not_mem_nil, or_false] at hc
      rcases hc with rfl | rfl | rfl <;> exact ⟨_, _, _, _, rfl, rfl, rfl, by decide +kernel⟩
    · intro f hf
      simp only [List.mem_cons, List.not_mem_nil, or_false] at hf
      rcases hf with rfl | rfl | rfl | rfl | rfl | rfl <;> kernel_rfl
  case ki => exact ⟨by kernel_rfl, by kernel_rfl, ⟨_, _, _, _, _, _, _, _, _, rfl, rfl, rfl, rfl, rfl, rfl, rfl, rfl, rfl⟩, ⟨_, _, _, _, _, _, _, _, _, rfl, rfl, rfl, rfl, rfl, rfl, rfl, rfl, rfl⟩⟩
  case pl => kernel_rfl
  case low => kernel_rfl
  case top => exact ⟨_, rfl⟩
  case law => kernel_rfl
  case bi => kernel_rfl
  case t1 => kernel_rfl
  case t2 => kernel_rfl
end
