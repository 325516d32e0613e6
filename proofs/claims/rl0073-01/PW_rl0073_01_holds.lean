import PyProof.Rows.All
import Wide.All
import OpenK.AllK
import Wide.FinOn
import Lean
import PySem.Challenge.RW_rl0073_01
set_option Elab.async false
set_option genSizeOf false
set_option linter.unusedVariables false
set_option linter.unusedSimpArgs false
open PySem PySem.W PyProof.Rows
section
set_option tactic.hygienic false
open PySem PySem.W PyProof.Rows
namespace Mine

inductive D where
  | none
  | bool (b : Bool)
  | int (i : Int)
  | str (x : Str)
  | list (ds : List D)
  | tuple (ds : List D)
  | ref (a : Addr)
  | obj (C : Addr) (ks : List Str) (ds : List D)

noncomputable abbrev Lg := Addr → Obj → Prop

structure DK (od : Obj) (m : Str → Option Value) (n : Nat) : Prop where
  at_ : ∃ es ep, od.data = .dict es ep ∧ StrKeys es ∧ (∀ name, nsFind es name = m name) ∧ es.size ≤ n

mutual
inductive Rp (N : Lg) : Value → D → Prop
  | none : Rp N .none .none
  | bool (b : Bool) : Rp N (.bool b) (.bool b)
  | int (i : Int) (t : Tok) : Rp N (.int i t) (.int i)
  | str (x : Str) (t : Tok) : Rp N (.str x t) (.str x)
  | list {a : Addr} {o : Obj} {vs : List Value} {n : Nat} {ds : List D} : N a o → o.cls = .type "list" → o.data = .seq vs.toArray n → Rps N vs ds → Rp N (.ref a) (.list ds)
  | tuple {a : Addr} {o : Obj} {vs : List Value} {n : Nat} {ds : List D} : N a o → o.cls = .type "tuple" → o.data = .seq vs.toArray n → Rps N vs ds → Rp N (.ref a) (.tuple ds)
  | ref (a : Addr) : Rp N (.ref a) (.ref a)
  | obj {x dx : Addr} {o od : Obj} {C : Addr} {ks : List Str} {vs : List Value} {ds : List D} {n : Nat} : N x o → (o.cls = .ref C ∧ o.dict = some dx ∧ o.data = .plain) → N dx od → DK od (fun y => (ks.zip vs).lookup y) n → Rps N vs ds → Rp N (.ref x) (.obj C ks ds)
inductive Rps (N : Lg) : List Value → List D → Prop
  | nil : Rps N [] []
  | cons {v : Value} {vs : List Value} {d : D} {ds : List D} : Rp N v d → Rps N vs ds → Rps N (v :: vs) (d :: ds)
end

theorem Rp.mono {N N' : Lg} (hs : ∀ a o, N a o → N' a o) {v : Value} {d : D} (h : Rp N v d) : Rp N' v d :=
  Rp.rec (motive_1 := fun v d _ => Rp N' v d) (motive_2 := fun vs ds _ => Rps N' vs ds) .none .bool .int .str (fun h c e _ r => .list (hs _ _ h) c e r) (fun h c e _ r => .tuple (hs _ _ h) c e r) .ref (fun h c d k _ r => .obj (hs _ _ h) c (hs _ _ d) k r) .nil (fun _ _ h r => .cons h r) h
theorem Rps.ind {N : Lg} {C : List Value → List D → Prop} {vs : List Value} {ds : List D} (h : Rps N vs ds) (h0 : C [] []) (h1 : ∀ v vs d ds, Rp N v d → Rps N vs ds → C vs ds → C (v :: vs) (d :: ds)) : C vs ds :=
  Rps.rec (motive_1 := fun _ _ _ => True) (motive_2 := fun vs ds _ => C vs ds) trivial (fun _ => trivial) (fun _ _ => trivial) (fun _ _ => trivial) (fun _ _ _ _ _ => trivial) (fun _ _ _ _ _ => trivial) (fun _ => trivial) (fun _ _ _ _ _ _ => trivial) h0 (fun a b _ c => h1 _ _ _ _ a b c) h
theorem Rps.inv {N : Lg} {vs : List Value} {d : D} {ds : List D} (h : Rps N vs (d :: ds)) : ∃ v us, vs = v :: us ∧ Rp N v d ∧ Rps N us ds := by
  cases h with | cons a b => exact ⟨_, _, rfl, a, b⟩
theorem Rps.mono {N N' : Lg} (hs : ∀ a o, N a o → N' a o) {vs : List Value} {ds : List D} (h : Rps N vs ds) : Rps N' vs ds := h.ind .nil fun _ _ _ _ r _ k => .cons (r.mono hs) k
theorem Rps.length {N : Lg} {vs : List Value} {ds : List D} (h : Rps N vs ds) : vs.length = ds.length := h.ind (C := fun vs ds => vs.length = ds.length) rfl fun _ _ _ _ _ _ k => congrArg Nat.succ k
theorem Rps.append {N : Lg} {vs ws : List Value} {ds es : List D} (h : Rps N vs ds) (k : Rps N ws es) : Rps N (vs ++ ws) (ds ++ es) := h.ind (C := fun vs ds => Rps N (vs ++ ws) (ds ++ es)) k fun _ _ _ _ r _ h => .cons r h
theorem Rps.one {N : Lg} {v : Value} {d : D} (h : Rp N v d) : Rps N [v] [d] := .cons h .nil
theorem Rps.get {N : Lg} {vs : List Value} {ds : List D} (h : Rps N vs ds) : ∀ {k : Nat} {d : D}, ds[k]? = some d → ∃ v, vs[k]? = some v ∧ Rp N v d :=
  h.ind (C := fun vs ds => ∀ {k : Nat} {d : D}, ds[k]? = some d → ∃ v, vs[k]? = some v ∧ Rp N v d) (fun e => nomatch e) fun v vs d ds r _ ih k d' e => by
    cases k with
    | zero => cases e; exact ⟨v, rfl, r⟩
    | succ k => exact ih (k := k) e
theorem Rps.get' {N : Lg} {vs : List Value} {ds : List D} (h : Rps N vs ds) : ∀ {k : Nat} {v : Value}, vs[k]? = some v → ∃ d, ds[k]? = some d ∧ Rp N v d :=
  h.ind (C := fun vs ds => ∀ {k : Nat} {v : Value}, vs[k]? = some v → ∃ d, ds[k]? = some d ∧ Rp N v d) (fun e => nomatch e) fun v vs d ds r _ ih k v' e => by
    cases k with
    | zero => cases e; exact ⟨d, rfl, r⟩
    | succ k => exact ih (k := k) e

section
variable {N : Lg} {C : List Value → Prop} {D' : Value → Prop} {vs : List Value} {v : Value}
@[elab_as_elim] theorem Rps.e1 {d : D} (h : Rps N vs [d]) (k : ∀ v, Rp N v d → C [v]) : C vs := by
  cases h with | cons h t => cases t; exact k _ h
@[elab_as_elim] theorem Rps.e2 {d e : D} (h : Rps N vs [d, e]) (k : ∀ v u, Rp N v d → Rp N u e → C [v, u]) : C vs := by
  cases h with | cons h t => cases t with | cons h2 t => cases t; exact k _ _ h h2
@[elab_as_elim] theorem Rp.eInt {i : Int} (h : Rp N v (.int i)) (k : ∀ t, D' (.int i t)) : D' v := by
  cases h; exact k _
@[elab_as_elim] theorem Rp.eStr {x : Str} (h : Rp N v (.str x)) (k : ∀ t, D' (.str x t)) : D' v := by
  cases h; exact k _
@[elab_as_elim] theorem Rp.eNone (h : Rp N v .none) (k : D' .none) : D' v := by
  cases h; exact k
@[elab_as_elim] theorem Rp.eRef {a : Addr} (h : Rp N v (.ref a)) (k : D' (.ref a)) : D' v := by
  cases h; exact k
@[elab_as_elim] theorem Rp.eList {ds : List D} (h : Rp N v (.list ds)) (k : ∀ a o vs n, N a o → o.cls = .type "list" → o.data = .seq vs.toArray n → Rps N vs ds → D' (.ref a)) : D' v := by
  cases h with | list a b c d => exact k _ _ _ _ a b c d
@[elab_as_elim] theorem Rp.eTup {ds : List D} (h : Rp N v (.tuple ds)) (k : ∀ a o vs n, N a o → o.cls = .type "tuple" → o.data = .seq vs.toArray n → Rps N vs ds → D' (.ref a)) : D' v := by
  cases h with | tuple a b c d => exact k _ _ _ _ a b c d
end
theorem vs0 {C : List Value → Prop} (h : C []) (vs : List Value) (e : vs.length = 0) : C vs := by
  cases List.eq_nil_of_length_eq_zero e; exact h
theorem vsc {n : Nat} {C : List Value → Prop} (h : ∀ x vs, vs.length = n → C (x :: vs)) (vs : List Value) (e : vs.length = n + 1) : C vs := by
  cases vs with
  | nil => cases e
  | cons x vs => exact h x vs (Nat.succ.inj e)
theorem vs1 {C : List Value → Prop} (h : ∀ x, C [x]) : ∀ vs : List Value, vs.length = 1 → C vs := vsc fun x => vs0 (h x)
theorem vs2 {C : List Value → Prop} (h : ∀ x y, C [x, y]) : ∀ vs : List Value, vs.length = 2 → C vs := vsc fun x => vsc fun y => vs0 (h x y)
theorem vs4 {C : List Value → Prop} (h : ∀ x y z u, C [x, y, z, u]) : ∀ vs : List Value, vs.length = 4 → C vs := vsc fun x => vsc fun y => vsc fun z => vsc fun u => vs0 (h x y z u)

structure Rm (A : Around) (n : Nat) : Prop where
  depth : A.depth + n < 1000
  units : A.units + 20 * n + 400 < 9900
  handled : A.handled = none
theorem Rm.le {A : Around} {n m : Nat} (h : Rm A n) (k : m ≤ n) : Rm A m := ⟨by have := h.depth; lia, by have := h.units; lia, h.handled⟩
theorem Rm.lim {A : Around} {n : Nat} (h : Rm A n) : A.depth < recursionLimit := by have := h.depth; show A.depth < 1000; lia
theorem Rm.deeper {A : Around} {n : Nat} {env : Env} (h : Rm A (n + 1)) : Rm (A.deeper env) n :=
  ⟨by have := h.depth; show A.depth + 1 + n < 1000; lia, by have := h.units; show A.units + 3 + 20 * n + 400 < 9900; lia, h.handled⟩

noncomputable def NsObj (N : Lg) (a : Addr) (m : Str → Option Value) : Prop := ∃ o es ep, N a o ∧ o.data = .dict es ep ∧ StrKeys es ∧ ∀ name, nsFind es name = m name
theorem NsObj.mono {N N' : Lg} (hs : ∀ a o, N a o → N' a o) {a : Addr} {m : Str → Option Value} (x : NsObj N a m) : NsObj N' a m :=
  let ⟨o, es, ep, h, r⟩ := x; ⟨o, es, ep, hs _ _ h, r⟩
structure Gs where
  prog : Program
  w : World
  mg : Str → Option Value
  mb : Str → Option Value
  base : Lg
  K : Frag
  hK : ∀ a o, K.lookup a = some o → base a o
  hg : NsObj base mainGlobals mg
  hb : NsObj base builtinsNs mb
  hc : ∃ mc, NsObj base cStatics mc ∧ mc "sys.recursionlimit" = none
noncomputable abbrev Gs.M (G : Gs) : Model := model G.prog G.w

noncomputable def Tp (G : Gs) (N : Lg) : Prop := ∀ a o, G.base a o → N a o
theorem Tp.g {G : Gs} {N : Lg} (x : Tp G N) : NsObj N mainGlobals G.mg := G.hg.mono x
theorem Tp.b {G : Gs} {N : Lg} (x : Tp G N) : NsObj N builtinsNs G.mb := G.hb.mono x
theorem Tp.c {G : Gs} {N : Lg} (x : Tp G N) : ∃ mc, NsObj N cStatics mc ∧ mc "sys.recursionlimit" = none := let ⟨mc, h, r⟩ := G.hc; ⟨mc, h.mono x, r⟩
theorem Tp.mono {G : Gs} {N N' : Lg} (hs : ∀ a o, N a o → N' a o) (x : Tp G N) : Tp G N' := fun a o e => hs a o (x a o e)

structure Ok (G : Gs) (s : Shared) (N : Lg) : Prop where
  tp : Tp G N
  hold : ∀ a o, N a o → s.heap.get? a = some o
theorem NsObj.ns {N : Lg} {h : Heap} (hh : ∀ a o, N a o → h.get? a = some o) {a : Addr} {m : Str → Option Value} (x : NsObj N a m) : h.Ns a m :=
  let ⟨o, es, ep, e, r⟩ := x; ⟨o, es, ep, hh _ _ e, r⟩
theorem Ok.at {G : Gs} {s : Shared} {N : Lg} (x : Ok G s N) {a : Addr} {o : Obj} (h : G.base a o) : s.heap.get? a = some o := x.hold _ _ (x.tp _ _ h)
theorem Ok.lim {G : Gs} {s : Shared} {N : Lg} (x : Ok G s N) : s.heap.NoLimit := let ⟨mc, h, r⟩ := x.tp.c; ⟨mc, h.ns x.hold, r⟩

structure Gr (s : Shared) (N : Lg) (s' : Shared) (N' : Lg) : Prop where
  keep : ∀ a o, s.heap.get? a = some o → s'.heap.get? a = some o
  le : ∀ a o, N a o → N' a o
  new : ∀ a o, N' a o → N a o ∨ s.heap.get? a = none
  hold : ∀ a o, N' a o → s'.heap.get? a = some o
  gens : s'.gens = s.gens
  os : s'.os = s.os
theorem Gr.refl {G : Gs} {s : Shared} {N : Lg} (h : Ok G s N) : Gr s N s N := ⟨fun _ _ e => e, fun _ _ e => e, fun _ _ e => .inl e, h.hold, rfl, rfl⟩
theorem Gr.toks {G : Gs} {s : Shared} {N : Lg} (h : Ok G s N) (t : Nat) : Gr s N { s with toks := t } N := ⟨fun _ _ e => e, fun _ _ e => e, fun _ _ e => .inl e, h.hold, rfl, rfl⟩
theorem none_of_keep {h h' : Heap} (k : ∀ a o, h.get? a = some o → h'.get? a = some o) {a : Addr} (e : h'.get? a = none) : h.get? a = none := by
  cases q : h.get? a with
  | none => rfl
  | some o => rw [k a o q] at e; cases e
theorem Gr.trans {s s1 s2 : Shared} {N N1 N2 : Lg} (x : Gr s N s1 N1) (y : Gr s1 N1 s2 N2) : Gr s N s2 N2 :=
  ⟨fun a o e => y.keep a o (x.keep a o e), fun a o e => y.le a o (x.le a o e),
   fun a o e => (y.new a o e).elim (fun e => x.new a o e) (fun e => .inr (none_of_keep x.keep e)), y.hold, y.gens.trans x.gens, y.os.trans x.os⟩
theorem Gr.ok {G : Gs} {s s1 : Shared} {N N1 : Lg} (x : Gr s N s1 N1) (h : Ok G s N) : Ok G s1 N1 := ⟨h.tp.mono x.le, x.hold⟩
theorem Gr.keeps {G : Gs} {s s' : Shared} {N : Lg} (h : Ok G s N) (k : ∀ a o, s.heap.get? a = some o → s'.heap.get? a = some o) (g : s'.gens = s.gens) (o : s'.os = s.os) : Gr s N s' N :=
  ⟨k, fun _ _ e => e, fun _ _ e => .inl e, fun a o e => k a o (h.hold a o e), g, o⟩

noncomputable def Lg.add (N : Lg) (a : Addr) (o : Obj) : Lg := fun b q => N b q ∨ (b = a ∧ q = o)
theorem Lg.add_le (N : Lg) (a : Addr) (o : Obj) : ∀ b q, N b q → N.add a o b q := fun _ _ e => .inl e
theorem Lg.add_self (N : Lg) (a : Addr) (o : Obj) : N.add a o a o := .inr ⟨rfl, rfl⟩
theorem Gr.freeze {s : Shared} {N : Lg} {s1 : Shared} {N1 : Lg} (x : Gr s N s1 N1) {a : Addr} {o : Obj} (hn : s.heap.get? a = none) (ho : s1.heap.get? a = some o) : Gr s N s1 (N1.add a o) :=
  ⟨x.keep, fun b q e => .inl (x.le b q e), fun b q e => e.elim (fun e => x.new b q e) (fun ⟨e, _⟩ => .inr (e ▸ hn)), fun b q e => e.elim (fun e => x.hold b q e) (fun ⟨e1, e2⟩ => by rw [e1, e2]; exact ho), x.gens, x.os⟩

noncomputable def LstAt (h : Heap) (a : Addr) (vs : Array Value) : Prop := ∃ o, h.get? a = some o ∧ (o.cls = .type "list" ∧ o.dict = none) ∧ ∃ n, o.data = .seq vs n
theorem LstAt.isList {h : Heap} {a : Addr} {vs : Array Value} (x : LstAt h a vs) : h.IsList a vs := let ⟨o, e, c, r⟩ := x; ⟨o, e, c.1, r⟩
noncomputable def okName (x : Str) : Bool := (x != ("__debug__" : Str)) && (x != ("__classdict__" : Str))
theorem okName_dbg {x : Str} (h : okName x = true) : (x == ("__debug__" : Str)) = false := by
  simp only [okName, Bool.and_eq_true, bne_iff_ne] at h; exact beq_eq_false_iff_ne.mpr h.1
theorem okName_cls {x : Str} (h : okName x = true) : (x == ("__classdict__" : Str)) = false := by
  simp only [okName, Bool.and_eq_true, bne_iff_ne] at h; exact beq_eq_false_iff_ne.mpr h.2

structure EnvOk (sc : Scope) (env : Env) : Prop where
  scope : env.scope = sc
  kind : sc.kind = .function
  globals : env.globals = mainGlobals
  builtins : env.builtins = builtinsNs

noncomputable def Sees (h : Heap) (env : Env) (x : Str) (v : Value) : Prop :=
  okName x = true ∧ ((env.kindOf x = some .local ∧ ∃ m, h.Ns env.locals m ∧ m x = some v) ∨
  ((env.kindOf x = some .cell ∨ env.kindOf x = some .free) ∧ ∃ c, env.cells.lookup x = some c ∧ h.IsCell c (some v)))
theorem Sees.keeps {h h' : Heap} {env : Env} {x : Str} {v : Value} (z : Sees h env x v) (k : ∀ a o, h.get? a = some o → h'.get? a = some o) : Sees h' env x v := by
  obtain ⟨n, z⟩ := z
  rcases z with ⟨a, m, b, c⟩ | ⟨a, c, b, d⟩
  · exact ⟨n, .inl ⟨a, m, b.keeps k, c⟩⟩
  · exact ⟨n, .inr ⟨a, c, b, d.keeps k⟩⟩
theorem Sees.load {M : Model} {A : Around} {E : Value → Shared → Prop} {Q : Value → Shared → Prop} {s : Shared} {env : Env} {x : Str} {v : Value} (z : Sees s.heap env x v) (hk : env.scope.kind = .function) (h : Q v s) :
    wpAny M A (loadName env x) Q E s := by
  obtain ⟨n, z⟩ := z
  rcases z with ⟨a, m, b, c⟩ | ⟨a | a, c, b, d⟩
  · exact wpAny_loadName_local hk a b c h
  · exact wpAny_loadName_cell hk a b d h
  · exact wpAny_loadName_free hk a b d h (okName_cls n)
theorem Sees.name {M : Model} {A : Around} {E : Value → Shared → Prop} {Q : Value → Shared → Prop} {s : Shared} {env : Env} {x : Str} {v : Value} {p : Pos} (z : Sees s.heap env x v) (hk : env.scope.kind = .function) (h : Q v s) :
    wpAny M A (eval (.Name x p) env) Q E s := wpAny_Name (z.load hk h) (okName_dbg z.1)

inductive Ent where
  | imm (d : D)
  | lst (ds : List D)
noncomputable abbrev Cx := List (Str × Ent)
noncomputable def VarOk (env : Env) (h : Heap) (N : Lg) (x : Str) : Ent → Prop
  | .imm d => ∃ v, Sees h env x v ∧ Rp N v d
  | .lst ds => ∃ a vs, Sees h env x (.ref a) ∧ LstAt h a vs.toArray ∧ Rps N vs ds
theorem VarOk.keeps {env : Env} {h h' : Heap} {N N' : Lg} {x : Str} {t : Ent} (z : VarOk env h N x t) (k : ∀ a o, h.get? a = some o → h'.get? a = some o) (l : ∀ a o, N a o → N' a o) : VarOk env h' N' x t := by
  cases t with
  | imm d => obtain ⟨v, a, b⟩ := z; exact ⟨v, a.keeps k, b.mono l⟩
  | lst ds => obtain ⟨a, vs, b, ⟨o, c, d⟩, e⟩ := z; exact ⟨a, vs, b.keeps k, ⟨o, k _ _ c, d⟩, e.mono l⟩

structure Vw (G : Gs) (sc : Scope) (cx : Cx) (env : Env) (s : Shared) (N : Lg) : Prop extends Ok G s N where
  envOk : EnvOk sc env
  vars : ∀ x t, (x, t) ∈ cx → VarOk env s.heap N x t
theorem Vw.gr {G : Gs} {sc : Scope} {cx : Cx} {env : Env} {s s' : Shared} {N N' : Lg} (z : Vw G sc cx env s N) (g : Gr s N s' N') : Vw G sc cx env s' N' :=
  { g.ok z.toOk with envOk := z.envOk, vars := fun x t h => (z.vars x t h).keeps g.keep g.le }
theorem Vw.fk {G : Gs} {sc : Scope} {cx : Cx} {env : Env} {s : Shared} {N : Lg} (z : Vw G sc cx env s N) : env.scope.kind = .function := by rw [z.envOk.scope, z.envOk.kind]

structure Sp (G : Gs) (A : Around) (s : Shared) (N : Lg) (t : Sem Value) (d : D) : Prop where
  go : ∀ (Q : Value → Shared → Prop) (E : Value → Shared → Prop), (∀ v s' N', Gr s N s' N' → Rp N' v d → Q v s') → wpAny G.M A t Q E s
structure SpM (G : Gs) (A : Around) (s : Shared) (N : Lg) (t : Sem Value) (ds : List D) : Prop where
  go : ∀ (Q : Value → Shared → Prop) (E : Value → Shared → Prop), (∀ a vs s' N', Gr s N s' N' → s.heap.get? a = none → (∀ o, ¬ N' a o) → LstAt s'.heap a vs.toArray → Rps N' vs ds → Q (.ref a) s') → wpAny G.M A t Q E s
structure SpB (G : Gs) (A : Around) (s : Shared) (N : Lg) (t : Sem Bool) (b : Bool) : Prop where
  go : ∀ (Q : Bool → Shared → Prop) (E : Value → Shared → Prop), (∀ s' N', Gr s N s' N' → Q b s') → wpAny G.M A t Q E s
structure SpV (G : Gs) (A : Around) (s : Shared) (N : Lg) (t : Sem Value) (v : Value) : Prop where
  go : ∀ (Q : Value → Shared → Prop) (E : Value → Shared → Prop), (∀ s' N', Gr s N s' N' → Q v s') → wpAny G.M A t Q E s
theorem SpM.sp {G : Gs} {A : Around} {s : Shared} {N : Lg} {t : Sem Value} {ds : List D} (h : SpM G A s N t ds) : Sp G A s N t (.list ds) := by
  refine ⟨fun Q E k => h.go Q E fun a vs s' N' g hn hN hl hr => ?_⟩
  obtain ⟨o, ho, hc, n, hd⟩ := hl
  exact k _ _ _ (g.freeze hn ho) (.list (Lg.add_self ..) hc.1 hd (hr.mono (Lg.add_le _ _ _)))

structure Ev (G : Gs) (n : Nat) (sc : Scope) (cx : Cx) (e : Expr) (d : D) : Prop where
  go : ∀ A env s N, Rm A n → Vw G sc cx env s N → Sp G A s N (eval e env) d
structure EvM (G : Gs) (n : Nat) (sc : Scope) (cx : Cx) (e : Expr) (ds : List D) : Prop where
  go : ∀ A env s N, Rm A n → Vw G sc cx env s N → SpM G A s N (eval e env) ds
structure EvT (G : Gs) (n : Nat) (sc : Scope) (cx : Cx) (e : Expr) (b : Bool) : Prop where
  go : ∀ A env s N, Rm A n → Vw G sc cx env s N → SpB G A s N (isTrue e env (eval e env)) b

section
variable {G : Gs} {n : Nat} {sc : Scope} {cx : Cx}
theorem EvM.ev {e : Expr} {ds : List D} (h : EvM G n sc cx e ds) : Ev G n sc cx e (.list ds) := ⟨fun A env s N r v => (h.go A env s N r v).sp⟩
theorem Ev.le {m : Nat} {e : Expr} {d : D} (h : Ev G m sc cx e d) (k : m ≤ n) : Ev G n sc cx e d := ⟨fun A env s N r v => h.go A env s N (r.le k) v⟩
theorem Ev.sub {cx' : Cx} {e : Expr} {d : D} (h : Ev G n sc cx' e d) (k : ∀ p ∈ cx', p ∈ cx) : Ev G n sc cx e d := ⟨fun A env s N r v => h.go A env s N r { v with vars := fun x t hx => v.vars x t (k _ hx) }⟩

theorem Ev.int {i : Int} {k : Nat} {p : Pos} : Ev G n sc cx (.Constant (.int i) k p) (.int i) :=
  ⟨fun _ _ _ _ _ z => ⟨fun _ _ h => by with_reducible exact wpAny_Constant_int (h _ _ _ (Gr.toks z.toOk _) (.int _ _))⟩⟩
theorem Ev.str {x : Str} {k : Nat} {p : Pos} : Ev G n sc cx (.Constant (.str x) k p) (.str x) :=
  ⟨fun _ _ _ _ _ z => ⟨fun _ _ h => by with_reducible exact wpAny_Constant_str (h _ _ _ (Gr.toks z.toOk _) (.str _ _))⟩⟩
theorem Ev.bool {b : Bool} {k : Nat} {p : Pos} : Ev G n sc cx (.Constant (.bool b) k p) (.bool b) :=
  ⟨fun _ _ _ _ _ z => ⟨fun _ _ h => by with_reducible exact wpAny_Constant_bool (h _ _ _ (Gr.refl z.toOk) (.bool _))⟩⟩
theorem Ev.none {k : Nat} {p : Pos} : Ev G n sc cx (.Constant .none k p) .none :=
  ⟨fun _ _ _ _ _ z => ⟨fun _ _ h => by with_reducible exact wpAny_Constant_none (h _ _ _ (Gr.refl z.toOk) .none)⟩⟩
theorem Ev.name {x : Str} {d : D} {p : Pos} (h : (x, Ent.imm d) ∈ cx) : Ev G n sc cx (.Name x p) d := by
  refine ⟨fun A env s N r z => ⟨fun Q E k => ?_⟩⟩
  obtain ⟨v, a, b⟩ := z.vars _ _ h
  exact a.name z.fk (k _ _ _ (Gr.refl z.toOk) b)
theorem loadGlobal_mg {M : Model} {A : Around} {E : Value → Shared → Prop} {Q : Value → Shared → Prop} {s : Shared} {env : Env} {x : Str} {v : Value} {m : Str → Option Value} (hn : s.heap.Ns env.globals m) (hv : m x = some v) (h : Q v s) : wpAny M A (loadGlobal env x) Q E s := by
  unfold loadGlobal
  refine wpAny_bind (wpAny_nsGet hn ?_)
  rw [hv]; exact wpAny_pure h
theorem loadGlobal_mb {M : Model} {A : Around} {E : Value → Shared → Prop} {Q : Value → Shared → Prop} {s : Shared} {env : Env} {x : Str} {v : Value} {m m' : Str → Option Value} (hn : s.heap.Ns env.globals m) (hx : m x = .none) (hb : s.heap.Ns env.builtins m') (hv : m' x = some v) (h : Q v s) : wpAny M A (loadGlobal env x) Q E s := by
  unfold loadGlobal
  refine wpAny_bind (wpAny_nsGet hn ?_)
  rw [hx]
  refine wpAny_bind (wpAny_nsGet hb ?_)
  rw [hv]; exact wpAny_pure h
theorem loadName_glob {M : Model} {A : Around} {E : Value → Shared → Prop} {Q : Value → Shared → Prop} {s : Shared} {env : Env} {x : Str} (hk : env.scope.kind = .function) (hx : env.kindOf x = some .globalImplicit) (h : wpAny M A (loadGlobal env x) Q E s) : wpAny M A (loadName env x) Q E s := by
  unfold loadName
  simp only [Env.blockKind, hk, hx, ScopeKind.isAnnotationScope, Bool.false_and, Bool.false_eq_true, if_false]
  exact h
structure Nm (G : Gs) (sc : Scope) (x : Str) (v : Value) : Prop where
  ok : okName x = true
  kind : sc.names.lookup x = some .globalImplicit
  val : G.mg x = some v ∨ (G.mg x = .none ∧ G.mb x = some v)
theorem Nm.eval {x : Str} {v : Value} {p : Pos} (h : Nm G sc x v) {A : Around} {env : Env} {s : Shared} {N : Lg} {Q : Value → Shared → Prop} {E : Value → Shared → Prop} (z : Vw G sc cx env s N) (k : Q v s) : wpAny G.M A (eval (.Name x p) env) Q E s := by
  obtain ⟨a, b, c⟩ := h
  refine wpAny_Name (loadName_glob z.fk (by show env.scope.names.lookup x = _; rw [z.envOk.scope]; exact b) ?_) (okName_dbg a)
  rcases c with c | ⟨c, d⟩
  · exact loadGlobal_mg (by rw [z.envOk.globals]; exact z.tp.g.ns z.hold) c k
  · exact loadGlobal_mb (by rw [z.envOk.globals]; exact z.tp.g.ns z.hold) c (by rw [z.envOk.builtins]; exact z.tp.b.ns z.hold) d k

structure Op2 (G : Gs) (n : Nat) (op : Operator) (d1 d2 d : D) : Prop where
  go : ∀ A s N a b, Rm A n → Ok G s N → Rp N a d1 → Rp N b d2 → Sp G A s N (binaryOp op a b) d
structure Op2M (G : Gs) (n : Nat) (op : Operator) (d1 d2 : D) (ds : List D) : Prop where
  go : ∀ A s N a b, Rm A n → Ok G s N → Rp N a d1 → Rp N b d2 → SpM G A s N (binaryOp op a b) ds
structure Cm2 (G : Gs) (n : Nat) (op : CmpOp) (d1 d2 : D) (r : Bool) : Prop where
  go : ∀ A s N a b, Rm A n → Ok G s N → Rp N a d1 → Rp N b d2 → SpV G A s N (compareOp op a b) (.bool r)
theorem Ev.bin {l r : Expr} {op : Operator} {p : Pos} {d1 d2 d : D} (hl : Ev G n sc cx l d1) (hr : Ev G n sc cx r d2) (ho : Op2 G n op d1 d2 d) : Ev G n sc cx (.BinOp l op r p) d := by
  refine ⟨fun A env s N rm z => ⟨fun Q E k => ?_⟩⟩
  with_reducible refine wpAny_BinOp ((hl.go A env s N rm z).go _ _ fun v s1 N1 g1 r1 => (hr.go A env s1 N1 rm (z.gr g1)).go _ _ fun v2 s2 N2 g2 r2 => ?_)
  exact (ho.go A s2 N2 _ _ rm ((z.gr g1).gr g2).toOk (r1.mono g2.le) r2).go _ _ fun v3 s3 N3 g3 r3 => k _ _ _ ((g1.trans g2).trans g3) r3
theorem EvM.bin {l r : Expr} {op : Operator} {p : Pos} {d1 d2 : D} {ds : List D} (hl : Ev G n sc cx l d1) (hr : Ev G n sc cx r d2) (ho : Op2M G n op d1 d2 ds) : EvM G n sc cx (.BinOp l op r p) ds := by
  refine ⟨fun A env s N rm z => ⟨fun Q E k => ?_⟩⟩
  with_reducible refine wpAny_BinOp ((hl.go A env s N rm z).go _ _ fun v s1 N1 g1 r1 => (hr.go A env s1 N1 rm (z.gr g1)).go _ _ fun v2 s2 N2 g2 r2 => ?_)
  exact (ho.go A s2 N2 _ _ rm ((z.gr g1).gr g2).toOk (r1.mono g2.le) r2).go _ _ fun a vs s3 N3 g3 hn hN hl hr => k _ _ _ _ ((g1.trans g2).trans g3) (none_of_keep (g1.trans g2).keep hn) hN hl hr
theorem Ev.cmp {l r : Expr} {op : CmpOp} {p : Pos} {d1 d2 : D} {b : Bool} (hl : Ev G n sc cx l d1) (hr : Ev G n sc cx r d2) (ho : Cm2 G n op d1 d2 b) (hm : behindInMarks op r = false := by rfl) : Ev G n sc cx (.Compare l [op] [r] p) (.bool b) := by
  refine ⟨fun A env s N rm z => ⟨fun Q E k => ?_⟩⟩
  with_reducible refine wpAny_Compare1 ((hl.go A env s N rm z).go _ _ fun v s1 N1 g1 r1 => (hr.go A env s1 N1 rm (z.gr g1)).go _ _ fun v2 s2 N2 g2 r2 => ?_) hm
  exact (ho.go A s2 N2 _ _ rm ((z.gr g1).gr g2).toOk (r1.mono g2.le) r2).go _ _ fun s3 N3 g3 => k _ _ _ ((g1.trans g2).trans g3) (.bool _)
theorem EvT.cmp {l r : Expr} {op : CmpOp} {p : Pos} {d1 d2 : D} {b : Bool} (hl : Ev G n sc cx l d1) (hr : Ev G n sc cx r d2) (ho : Cm2 G n op d1 d2 b) (hm : behindInMarks op r = false := by rfl) : EvT G n sc cx (.Compare l [op] [r] p) b := by
  refine ⟨fun A env s N rm z => ⟨fun Q E k => ?_⟩⟩
  with_reducible refine wpAny_isTrue_Compare1 ((hl.go A env s N rm z).go _ _ fun v s1 N1 g1 r1 => (hr.go A env s1 N1 rm (z.gr g1)).go _ _ fun v2 s2 N2 g2 r2 => ?_) hm
  exact (ho.go A s2 N2 _ _ rm ((z.gr g1).gr g2).toOk (r1.mono g2.le) r2).go _ _ fun s3 N3 g3 => wpAny_truthy_bool (k _ _ ((g1.trans g2).trans g3))
structure Tr (G : Gs) (n : Nat) (d : D) (b : Bool) : Prop where
  go : ∀ A s N v, Rm A n → Ok G s N → Rp N v d → SpB G A s N (truthy v) b
theorem EvT.val {e : Expr} {d : D} {b : Bool} (he : Ev G n sc cx e d) (ht : Tr G n d b) (hp : ∀ env, isTrue e env (eval e env) = (do let v ← eval e env; standAt e.pos; holding [v] (truthy v)) := by intro _; rfl) : EvT G n sc cx e b := by
  refine ⟨fun A env s N rm z => ⟨fun Q E k => ?_⟩⟩
  with_reducible exact wpAny_isTrue_value ((he.go A env s N rm z).go _ _ fun v s1 N1 g1 r1 => (ht.go A s1 N1 v rm (z.gr g1).toOk r1).go _ _ fun s2 N2 g2 => k _ _ (g1.trans g2)) (hp env)
theorem Tr.bool {b : Bool} : Tr G n (.bool b) b := by
  refine ⟨fun A s N v rm z r => ⟨fun Q E k => ?_⟩⟩
  cases r
  with_reducible exact wpAny_truthy_bool (k _ _ (Gr.refl z))
theorem EvT.and2 {l r : Expr} {p : Pos} {b c : Bool} (hl : EvT G n sc cx l b) (hr : b = true → EvT G n sc cx r c) : EvT G n sc cx (.BoolOp .And [l, r] p) (b && c) := by
  refine ⟨fun A env s N rm z => ⟨fun Q E k => ?_⟩⟩
  with_reducible refine wpAny_isTrue_BoolOp (wpAny_allTrue_And_cons ((hl.go A env s N rm z).go _ _ fun s1 N1 g1 => ?_))
  cases b with
  | false => exact k _ _ g1
  | true =>
    show wpAny _ _ _ _ _ _
    with_reducible refine wpAny_allTrue_And_cons (((hr rfl).go A env s1 N1 rm (z.gr g1)).go _ _ fun s2 N2 g2 => ?_)
    cases c with
    | false => exact k _ _ (g1.trans g2)
    | true => exact wpAny_allTrue_And_nil (k _ _ (g1.trans g2))
theorem Ev.ite {t x y : Expr} {p : Pos} {b : Bool} {d : D} (ht : EvT G n sc cx t b) (hx : b = true → Ev G n sc cx x d) (hy : b = false → Ev G n sc cx y d) : Ev G n sc cx (.IfExp t x y p) d := by
  refine ⟨fun A env s N rm z => ⟨fun Q E k => ?_⟩⟩
  with_reducible refine wpAny_IfExp ((ht.go A env s N rm z).go _ _ fun s1 N1 g1 => ?_)
  cases b with
  | true => exact ((hx rfl).go A env s1 N1 rm (z.gr g1)).go _ _ fun v s2 N2 g2 r2 => k _ _ _ (g1.trans g2) r2
  | false => exact ((hy rfl).go A env s1 N1 rm (z.gr g1)).go _ _ fun v s2 N2 g2 r2 => k _ _ _ (g1.trans g2) r2
end
end Mine
end
section
set_option tactic.hygienic false
open PySem PySem.W PyProof.Rows
namespace Mine

structure Bse where
  X : List (Addr × Obj)
  s₀ : Shared
  N₀ : Lg
structure Bse.Le (B B' : Bse) : Prop where
  s : B'.s₀ = B.s₀
  x : ∀ p ∈ B'.X, (∃ q ∈ B.X, q.1 = p.1) ∨ B.s₀.heap.get? p.1 = none
  le : ∀ a o, B.N₀ a o → B'.N₀ a o
  new : ∀ a o, B'.N₀ a o → B.N₀ a o ∨ B.s₀.heap.get? a = none
theorem Bse.Le.refl (B : Bse) : B.Le B := ⟨rfl, fun p hp => .inl ⟨p, hp, rfl⟩, fun _ _ e => e, fun _ _ e => .inl e⟩
theorem Bse.Le.trans {B B' B'' : Bse} (h : B.Le B') (k : B'.Le B'') : B.Le B'' := by
  refine ⟨k.s.trans h.s, fun p hp => ?_, fun a o e => k.le a o (h.le a o e), fun a o e => ?_⟩
  · rcases k.x p hp with ⟨q, hq, e⟩ | e
    · rcases h.x q hq with ⟨q', hq', e'⟩ | e'
      · exact .inl ⟨q', hq', e'.trans e⟩
      · exact .inr (e ▸ e')
    · exact .inr (h.s ▸ e)
  · rcases k.new a o e with e | e
    · exact h.new a o e
    · exact .inr (h.s ▸ e)
structure Fs (G : Gs) (sc : Scope) (on : List Str) (B : Bse) (cx : Cx) (env : Env) (s : Shared) (N : Lg) : Prop extends Vw G sc cx env s N where
  keep : ∀ a o, (∀ p ∈ B.X, p.1 ≠ a) → B.s₀.heap.get? a = some o → s.heap.get? a = some o
  le : ∀ a o, B.N₀ a o → N a o
  new : ∀ a o, N a o → B.N₀ a o ∨ B.s₀.heap.get? a = none
  gens : s.gens = B.s₀.gens
  os : s.os = B.s₀.os
  loc : ∃ m, s.heap.Ns env.locals m
  L0 : B.s₀.heap.get? env.locals = none
  LN : ∀ o, ¬ N env.locals o
  cells : ∀ x ∈ on, ∃ c v, env.cells.lookup x = some c ∧ s.heap.IsCell c v ∧ B.s₀.heap.get? c = none ∧ (∀ o, ¬ N c o)
  apart : ∀ x y c, x ∈ on → env.cells.lookup x = some c → env.cells.lookup y = some c → x = y
  ext : ∀ p ∈ B.X, s.heap.get? p.1 = some p.2 ∧ (∀ o, ¬ N p.1 o) ∧ p.1 ≠ env.locals ∧ (∀ x ∈ on, env.cells.lookup x ≠ some p.1)
  lists : ∃ al : Str → Addr, (∀ x ds, (x, Ent.lst ds) ∈ cx → ∃ vs, Sees s.heap env x (.ref (al x)) ∧ LstAt s.heap (al x) vs.toArray ∧ Rps N vs ds ∧ B.s₀.heap.get? (al x) = none ∧ (∀ o, ¬ N (al x) o) ∧ (∀ p ∈ B.X, p.1 ≠ al x)) ∧
    (∀ x y ds es, (x, Ent.lst ds) ∈ cx → (y, Ent.lst es) ∈ cx → al x = al y → x = y)

noncomputable def pickN (cx : Cx) : List Str → Cx
  | [] => []
  | x :: xs => match cx.find? fun q => q.1 == x with
    | some q => q :: pickN cx xs
    | none => pickN cx xs
theorem pickN_sub (cx : Cx) (xs : List Str) : ∀ q ∈ pickN cx xs, q ∈ cx := by
  induction xs with
  | nil => exact fun _ h => nomatch h
  | cons x xs ih =>
    intro q h
    rw [pickN] at h
    cases e : cx.find? fun q => q.1 == x with
    | none => rw [e] at h; exact ih q h
    | some p =>
      rw [e] at h
      rcases List.mem_cons.mp h with h | h
      · exact h ▸ List.mem_of_find?_eq_some e
      · exact ih q h
theorem sub_names {cx cx' : Cx} (h : pickN cx (cx'.map (·.1)) = cx') : ∀ q ∈ cx', q ∈ cx := h ▸ pickN_sub cx _
section
variable {G : Gs} {sc : Scope} {on : List Str} {B : Bse} {cx : Cx} {env : Env} {s : Shared} {N : Lg}

theorem not_new {s s' : Shared} {N N' : Lg} (g : Gr s N s' N') {a : Addr} {o : Obj} (ha : s.heap.get? a = some o) (hn : ∀ o, ¬ N a o) : ∀ o, ¬ N' a o := fun o e => by
  rcases g.new a o e with e | e
  · exact hn o e
  · rw [ha] at e; cases e
theorem Fs.gr {s' : Shared} {N' : Lg} (F : Fs G sc on B cx env s N) (g : Gr s N s' N') : Fs G sc on B cx env s' N' := by
  refine { F.toVw.gr g with keep := fun a o h e => g.keep a o (F.keep a o h e), le := fun a o e => g.le a o (F.le a o e), new := fun a o e => ?_, gens := g.gens.trans F.gens, os := g.os.trans F.os, loc := ?_, L0 := F.L0, LN := ?_, cells := ?_, apart := F.apart, ext := ?_, lists := ?_ }
  · rcases g.new a o e with e | e
    · exact F.new a o e
    · by_cases hp : ∀ p ∈ B.X, p.1 ≠ a
      · right
        cases q : B.s₀.heap.get? a with
        | none => rfl
        | some o' => rw [F.keep a o' hp q] at e; cases e
      · have ⟨p, hp1, hp2⟩ : ∃ p ∈ B.X, p.1 = a := by
          apply Classical.byContradiction; intro h; exact hp fun p h1 h2 => h ⟨p, h1, h2⟩
        rw [← hp2, (F.ext p hp1).1] at e; cases e
  · obtain ⟨m, h⟩ := F.loc; exact ⟨m, h.keeps g.keep⟩
  · obtain ⟨m, o, es, ep, h, _⟩ := F.loc; exact not_new g h F.LN
  · intro x hx
    obtain ⟨c, v, a, ⟨o, ho, hd⟩, b, d⟩ := F.cells x hx
    exact ⟨c, v, a, ⟨o, g.keep _ _ ho, hd⟩, b, not_new g ho d⟩
  · intro p hp
    obtain ⟨a, b, c, d⟩ := F.ext p hp
    exact ⟨g.keep _ _ a, not_new g a b, c, d⟩
  · obtain ⟨al, h1, h2⟩ := F.lists
    refine ⟨al, fun x ds hx => ?_, h2⟩
    obtain ⟨vs, a, ⟨o, ho, hc⟩, b, c, d, e⟩ := h1 x ds hx
    exact ⟨vs, a.keeps g.keep, ⟨o, g.keep _ _ ho, hc⟩, b.mono g.le, c, not_new g ho d, e⟩
theorem Fs.sub {cx' : Cx} (F : Fs G sc on B cx env s N) (h : ∀ p ∈ cx', p ∈ cx) : Fs G sc on B cx' env s N :=
  { F with vars := fun x t hx => F.vars x t (h _ hx), lists := let ⟨al, h1, h2⟩ := F.lists; ⟨al, fun x ds hx => h1 x ds (h _ hx), fun x y ds es h3 h4 => h2 x y ds es (h _ h3) (h _ h4)⟩ }

theorem Fs.upd {h' : Heap} {tk : Nat} {a : Addr} (F : Fs G sc on B cx env s N) (hs : Heap.SameBut a s.heap h') (ha0 : B.s₀.heap.get? a = none) (haN : ∀ o, ¬ N a o) (haX : ∀ p ∈ B.X, p.1 ≠ a) (hal : ∀ vs, ¬ LstAt s.heap a vs)
    (hloc : ∃ m, h'.Ns env.locals m) (hcell : ∀ x ∈ on, env.cells.lookup x = some a → ∃ v, h'.IsCell a v) (hsee : ∀ x t v, (x, t) ∈ cx → Sees s.heap env x v → Sees h' env x v) :
    Fs G sc on B cx env { s with heap := h', toks := tk } N := by
  have hl : ∀ b vs, LstAt s.heap b vs → LstAt h' b vs := fun b vs ⟨o, ho, r⟩ => ⟨o, (hs.2 b (fun e => hal vs (e ▸ ⟨o, ho, r⟩))).trans ho, r⟩
  have hN : ∀ b o, N b o → h'.get? b = some o := fun b o e => (hs.2 b (fun q => haN o (q ▸ e))).trans (F.hold b o e)
  refine { tp := F.tp, hold := hN, envOk := F.envOk, vars := ?_, keep := ?_, le := F.le, new := F.new, gens := F.gens, os := F.os, loc := hloc, L0 := F.L0, LN := F.LN, cells := ?_, apart := F.apart, ext := ?_, lists := ?_ }
  · intro x t hx
    have z := F.vars x t hx
    cases t with
    | imm d => obtain ⟨v, p, q⟩ := z; exact ⟨v, hsee x _ v hx p, q⟩
    | lst ds => obtain ⟨b, vs, p, q, r⟩ := z; exact ⟨b, vs, hsee x _ _ hx p, hl _ _ q, r⟩
  · intro b o hX e
    refine (hs.2 b fun q => ?_).trans (F.keep b o hX e)
    rw [q, ha0] at e; cases e
  · intro x hx
    obtain ⟨c, v, p, q, r⟩ := F.cells x hx
    by_cases hca : c = a
    · subst hca
      obtain ⟨v', q'⟩ := hcell x hx p
      exact ⟨c, v', p, q', r⟩
    · exact ⟨c, v, p, q.sameBut hs hca, r⟩
  · intro p hp
    obtain ⟨q, r⟩ := F.ext p hp
    exact ⟨(hs.2 p.1 (haX p hp)).trans q, r⟩
  · obtain ⟨al, h1, h2⟩ := F.lists
    refine ⟨al, fun x ds hx => ?_, h2⟩
    obtain ⟨vs, p, q, r⟩ := h1 x ds hx
    exact ⟨vs, hsee x _ _ hx p, hl _ _ q, r⟩

theorem Fs.store0 {M : Model} {A : Around} {E : Value → Shared → Prop} {Q : Unit → Shared → Prop} {x : Str} {v : Value} (F : Fs G sc on B cx env s N) (hx : ∀ p ∈ cx, p.1 ≠ x) (hn : okName x = true)
    (hk : sc.names.lookup x = some .local ∨ (sc.names.lookup x = some .cell ∧ x ∈ on))
    (k : ∀ s', Fs G sc on B cx env s' N → Sees s'.heap env x v → (∀ b vs, LstAt s.heap b vs → LstAt s'.heap b vs) → (∀ y t v, (y, t) ∈ cx → Sees s.heap env y v → Sees s'.heap env y v) → Q () s') : wpAny M A (storeName env x v) Q E s := by
  have hkind : ∀ y, env.kindOf y = sc.names.lookup y := fun y => by show env.scope.names.lookup y = _; rw [F.envOk.scope]
  rcases hk with hk | ⟨hk, ho⟩
  · obtain ⟨m, hm⟩ := F.loc
    have hal : ∀ vs, ¬ LstAt s.heap env.locals vs := fun vs ⟨o, h1, _, n, h2⟩ => by
      obtain ⟨o', es, ep, h3, h4, _⟩ := hm
      rw [h1] at h3; cases h3; rw [h2] at h4; cases h4
    refine wpAny_storeName_local ((hkind x).trans hk) hm (fun h' hn' hs' => ?_) (by rw [F.fk]; rfl)
    have hsee : ∀ y t v, (y, t) ∈ cx → Sees s.heap env y v → Sees h' env y v := fun y t v' hy hs => by
      have hne : y ≠ x := hx _ hy
      obtain ⟨z1, z | z⟩ := hs
      · obtain ⟨a, m', b, c⟩ := z
        refine ⟨z1, .inl ⟨a, _, hn', ?_⟩⟩
        obtain ⟨o1, es1, ep1, e1, e2, e3, e4⟩ := hm
        obtain ⟨o2, es2, ep2, f1, f2, f3, f4⟩ := b
        rw [e1] at f1; cases f1
        rw [e2] at f2; cases f2
        show (if y = x then some v else m y) = some v'
        rw [if_neg hne, ← e4 y, f4 y, c]
      · obtain ⟨a, c, b, d⟩ := z
        refine ⟨z1, .inr ⟨a, c, b, d.sameBut hs' fun e => ?_⟩⟩
        obtain ⟨o, h1, h2⟩ := d
        obtain ⟨o', es, ep, h3, h4, _⟩ := hm
        rw [e, h3] at h1; cases h1; rw [h2] at h4; cases h4
    refine k _ ?_ ⟨hn, .inl ⟨(hkind x).trans hk, _, hn', by simp⟩⟩ ?_ hsee
    · refine F.upd hs' F.L0 F.LN (fun p hp => (F.ext p hp).2.2.1) hal ⟨_, hn'⟩ (fun y hy e => ?_) hsee
      obtain ⟨c, v, p, ⟨o, q1, q2⟩, r⟩ := F.cells y hy
      rw [p] at e; cases e
      obtain ⟨o', es, ep, h3, h4, _⟩ := hm
      rw [q1] at h3; cases h3; rw [q2] at h4; cases h4
    · intro b vs ⟨o, h1, h2⟩
      exact ⟨o, (hs'.2 b fun e => hal vs (e ▸ ⟨o, h1, h2⟩)).trans h1, h2⟩
  · obtain ⟨c, v₀, p, q, r0, r1⟩ := F.cells x ho
    have hal : ∀ vs, ¬ LstAt s.heap c vs := fun vs ⟨o, h1, _, n, h2⟩ => by
      obtain ⟨o', h3, h4⟩ := q
      rw [h1] at h3; cases h3; rw [h2] at h4; cases h4
    have hLc : env.locals ≠ c := fun e => by
      obtain ⟨m, o', es, ep, h3, h4, _⟩ := F.loc
      obtain ⟨o, h1, h2⟩ := q
      rw [← e, h3] at h1; cases h1; rw [h4] at h2; cases h2
    refine wpAny_storeName_cell F.fk ((hkind x).trans hk) p q fun h' hc' hs' => ?_
    have hsee : ∀ y t v, (y, t) ∈ cx → Sees s.heap env y v → Sees h' env y v := fun y t v' hy hs => by
      have hne : y ≠ x := hx _ hy
      obtain ⟨z1, z | z⟩ := hs
      · obtain ⟨a, m', b, c'⟩ := z
        exact ⟨z1, .inl ⟨a, m', b.sameBut hs' hLc, c'⟩⟩
      · obtain ⟨a, c', b, d⟩ := z
        exact ⟨z1, .inr ⟨a, c', b, d.sameBut hs' fun e => hne (F.apart x y c ho p (e ▸ b)).symm⟩⟩
    refine k { s with heap := h' } ?_ ⟨hn, .inr ⟨.inl ((hkind x).trans hk), c, p, hc'⟩⟩ ?_ hsee
    · refine F.upd (tk := s.toks) hs' r0 r1 (fun p' hp e => (F.ext p' hp).2.2.2 x ho (by rw [e]; exact p)) hal ?_ (fun y hy e => ⟨_, hc'⟩) hsee
      obtain ⟨m, hm⟩ := F.loc; exact ⟨m, hm.sameBut hs' hLc⟩
    · intro b vs ⟨o, h1, h2⟩
      exact ⟨o, (hs'.2 b fun e => hal vs (e ▸ ⟨o, h1, h2⟩)).trans h1, h2⟩

theorem Fs.store {M : Model} {A : Around} {E : Value → Shared → Prop} {Q : Unit → Shared → Prop} {x : Str} {v : Value} {d : D} (F : Fs G sc on B cx env s N) (hx : ∀ p ∈ cx, p.1 ≠ x) (hn : okName x = true)
    (hk : sc.names.lookup x = some .local ∨ (sc.names.lookup x = some .cell ∧ x ∈ on)) (r : Rp N v d)
    (k : ∀ s', Fs G sc on B ((x, .imm d) :: cx) env s' N → Q () s') : wpAny M A (storeName env x v) Q E s := by
  refine F.store0 hx hn hk fun s' F' hs _ _ => k s' { F' with vars := fun y t hy => ?_, lists := ?_ }
  · rcases List.mem_cons.mp hy with e | hy
    · cases e; exact ⟨v, hs, r⟩
    · exact F'.vars y t hy
  · obtain ⟨al, h1, h2⟩ := F'.lists
    exact ⟨al, fun y ds hy => (List.mem_cons.mp hy).elim (fun e => by cases e) fun hy => h1 y ds hy, fun y z ds es hy hz => (List.mem_cons.mp hy).elim (fun e => by cases e) fun hy => (List.mem_cons.mp hz).elim (fun e => by cases e) fun hz => h2 y z ds es hy hz⟩

theorem Fs.storeM {M : Model} {A : Around} {E : Value → Shared → Prop} {Q : Unit → Shared → Prop} {x : Str} {a : Addr} {vs : List Value} {ds : List D} (F : Fs G sc on B cx env s N) (hx : ∀ p ∈ cx, p.1 ≠ x) (hn : okName x = true)
    (hk : sc.names.lookup x = some .local ∨ (sc.names.lookup x = some .cell ∧ x ∈ on)) (hl : LstAt s.heap a vs.toArray) (r : Rps N vs ds) (h0 : B.s₀.heap.get? a = none) (hN : ∀ o, ¬ N a o) (hX : ∀ p ∈ B.X, p.1 ≠ a)
    (ho : ∀ y es, (y, Ent.lst es) ∈ cx → ¬ Sees s.heap env y (.ref a))
    (k : ∀ s', Fs G sc on B ((x, .lst ds) :: cx) env s' N → Q () s') : wpAny M A (storeName env x (.ref a)) Q E s := by
  obtain ⟨al0, g1, g2⟩ := F.lists
  refine F.store0 hx hn hk fun s' F' hs hll hsee => k s' { F' with vars := fun y t hy => ?_, lists := ?_ }
  · rcases List.mem_cons.mp hy with e | hy
    · cases e; exact ⟨a, vs, hs, hll _ _ hl, r⟩
    · exact F'.vars y t hy
  · refine ⟨fun y => if y = x then a else al0 y, fun y es hy => ?_, fun y z es fs hy hz e => ?_⟩
    · rcases List.mem_cons.mp hy with e | hy
      · cases e; simp only [if_true]; exact ⟨vs, hs, hll _ _ hl, r, h0, hN, hX⟩
      · have hne : y ≠ x := hx _ hy
        simp only [if_neg hne]
        obtain ⟨ws, p, q, r⟩ := g1 y es hy
        exact ⟨ws, hsee y _ _ hy p, hll _ _ q, r⟩
    · rcases List.mem_cons.mp hy with e1 | hy <;> rcases List.mem_cons.mp hz with e2 | hz
      · cases e1; cases e2; rfl
      · cases e1
        have hne : z ≠ x := hx _ hz
        simp only [if_true, if_neg hne] at e
        obtain ⟨ws, p, _⟩ := g1 z fs hz
        rw [← e] at p
        exact absurd p (ho z fs hz)
      · cases e2
        have hne : y ≠ x := hx _ hy
        simp only [if_true, if_neg hne] at e
        obtain ⟨ws, p, _⟩ := g1 y es hy
        rw [e] at p
        exact absurd p (ho y es hy)
      · have hne1 : y ≠ x := hx _ hy
        have hne2 : z ≠ x := hx _ hz
        simp only [if_neg hne1, if_neg hne2] at e
        exact g2 y z es fs hy hz e
end
end Mine
end
local macro_rules | `(tactic| walk_at "sub") => `(tactic| first | (refine Mine.sub_names ?_; kernel_rfl!) | (repeat' first | exact List.forall_mem_nil _ | with_reducible exact List.mem_cons_self | refine List.forall_mem_cons.mpr ⟨?_, ?_⟩ | refine List.mem_cons_of_mem _ ?_))
section
set_option tactic.hygienic false
open PySem PySem.W PyProof.Rows
namespace Mine

section
variable {G : Gs} {n : Nat} {A : Around} {sc : Scope} {on : List Str} {B : Bse} {cx : Cx} {env : Env} {s : Shared} {N : Lg}
variable {Q : Flow → Shared → Prop} {E : Value → Shared → Prop}

noncomputable def canSt (sc : Scope) (on : List Str) (cx : Cx) (x : Str) : Bool :=
  okName x && (cx.all fun p => p.1 != x) && (sc.names.lookup x == some .local || (sc.names.lookup x == some .cell && on.contains x))
theorem canSt.all {x : Str} (h : canSt sc on cx x = true) : okName x = true ∧ (∀ p ∈ cx, p.1 ≠ x) ∧ (sc.names.lookup x = some .local ∨ (sc.names.lookup x = some .cell ∧ x ∈ on)) := by
  simp only [canSt, Bool.and_eq_true, List.all_eq_true, bne_iff_ne, Bool.or_eq_true, beq_iff_eq, List.contains_eq_mem, decide_eq_true_eq] at h
  exact ⟨h.1.1, h.1.2, h.2⟩

structure Wp {α : Type} (G : Gs) (A : Around) (t : Sem α) (Q : α → Shared → Prop) (E : Value → Shared → Prop) (s : Shared) : Prop where
  go : wpAny G.M A t Q E s
theorem wnil (h : Q .next s) : Wp G A (execs [] env) Q E s := ⟨wpAny_execs_nil h⟩
noncomputable abbrev SeqQ (G : Gs) (A : Around) (env : Env) (rest : List Stmt) (Q : Flow → Shared → Prop) (E : Value → Shared → Prop) (f : Flow) (s' : Shared) : Prop := match f with | .next => Wp G A (execs rest env) Q E s' | f => Q f s'
theorem wseq {st : Stmt} {rest : List Stmt} (h : Wp G A (exec st env) (SeqQ G A env rest Q E) E s) : Wp G A (execs (st :: rest) env) Q E s := by
  refine ⟨?_⟩
  with_reducible refine wpAny_execs_cons ?_
  refine wpAny_mono h.go (fun f s' q => ?_) (fun _ _ q => q)
  cases f
  · exact q.go
  all_goals exact q
variable {rest : List Stmt}
theorem asg0 {x : Str} {p p' : Pos} {e : Expr} {d : D} (F : Fs G sc on B cx env s N) (rm : Rm A n) (he : Ev G n sc cx e d) (hx : canSt sc on cx x = true)
    (k : ∀ s' N', Fs G sc on B ((x, .imm d) :: cx) env s' N' → Q .next s')
    (hw : ∀ line env, EnvOk sc env → swapsWith e (some (Expr.Name x p)) line env = pure false) : wpAny G.M A (exec (.Assign [.Name x p] e p') env) Q E s := by
  obtain ⟨h1, h2, h3⟩ := canSt.all hx
  with_reducible exact wpAny_Assign_Name ((he.go A env s N rm F.toVw).go _ _ fun v s1 N1 g1 r1 => (F.gr g1).store h2 h1 h3 r1 fun s' F' => k s' N1 F') (hw _ _ F.envOk)
theorem asg {x : Str} {p p' : Pos} {e : Expr} {d : D} (F : Fs G sc on B cx env s N) (rm : Rm A n) (he : Ev G n sc cx e d) (hx : canSt sc on cx x = true)
    (k : ∀ s' N', Fs G sc on B ((x, .imm d) :: cx) env s' N' → Wp G A (execs rest env) Q E s')
    (hw : ∀ line env, EnvOk sc env → swapsWith e (some (Expr.Name x p)) line env = pure false := by intro _ _ _; rfl) : Wp G A (execs (.Assign [.Name x p] e p' :: rest) env) Q E s :=
  wseq ⟨asg0 F rm he hx k hw⟩
theorem asgR {x : Str} {p p' : Pos} {e : Expr} {d : D} {cx' : Cx} (F : Fs G sc on B cx env s N) (rm : Rm A n) (he : Ev G n sc cx e d) (hs : ∀ q ∈ cx', q ∈ cx) (hx : canSt sc on cx' x = true)
    (k : ∀ s' N', Fs G sc on B ((x, .imm d) :: cx') env s' N' → Wp G A (execs rest env) Q E s')
    (hw : ∀ line env, EnvOk sc env → swapsWith e (some (Expr.Name x p)) line env = pure false := by intro _ _ _; rfl) : Wp G A (execs (.Assign [.Name x p] e p' :: rest) env) Q E s := by
  obtain ⟨h1, h2, h3⟩ := canSt.all hx
  refine wseq ⟨?_⟩
  with_reducible exact wpAny_Assign_Name ((he.go A env s N rm F.toVw).go _ _ fun v s1 N1 g1 r1 => ((F.gr g1).sub hs).store h2 h1 h3 r1 fun s' F' => k s' N1 F') (hw _ _ F.envOk)
theorem fresh_list {s1 : Shared} {N1 : Lg} (F : Fs G sc on B cx env s N) (g : Gr s N s1 N1) {a : Addr} (h0 : s.heap.get? a = none) : (∀ p ∈ B.X, p.1 ≠ a) ∧ B.s₀.heap.get? a = none ∧ (∀ y es, (y, Ent.lst es) ∈ cx → ¬ Sees s1.heap env y (.ref a)) := by
  have hX : ∀ p ∈ B.X, p.1 ≠ a := fun p hp e => by have := (F.ext p hp).1; rw [e, h0] at this; cases this
  refine ⟨hX, ?_, fun y es hy hs => ?_⟩
  · cases q : B.s₀.heap.get? a with
    | none => rfl
    | some o => rw [F.keep a o hX q] at h0; cases h0
  · obtain ⟨b, vs, p, ⟨o, ho, _⟩, _⟩ := F.vars y _ hy
    have p' := p.keeps g.keep
    have : b = a := by
      obtain ⟨_, z | z⟩ := p' <;> obtain ⟨_, z' | z'⟩ := hs
      · obtain ⟨_, m, ⟨o1, es1, ep1, e1, e2, e3, e4⟩, q1⟩ := z
        obtain ⟨_, m', ⟨o2, es2, ep2, f1, f2, f3, f4⟩, q2⟩ := z'
        rw [e1] at f1; cases f1; rw [e2] at f2; cases f2
        have := (e4 y).symm.trans (f4 y); rw [q1, q2] at this; cases this; rfl
      · have h1 := z.1; rcases z'.1 with h2 | h2 <;> (rw [h1] at h2; cases h2)
      · have h1 := z'.1; rcases z.1 with h2 | h2 <;> (rw [h1] at h2; cases h2)
      · obtain ⟨_, c, l, ⟨o1, e1, e2⟩⟩ := z
        obtain ⟨_, c', l', ⟨o2, f1, f2⟩⟩ := z'
        rw [l] at l'; cases l'; rw [e1] at f1; cases f1; rw [e2] at f2; cases f2; rfl
    rw [this, h0] at ho; cases ho
theorem asgM {x : Str} {p p' : Pos} {e : Expr} {ds : List D} (F : Fs G sc on B cx env s N) (rm : Rm A n) (he : EvM G n sc cx e ds) (hx : canSt sc on cx x = true)
    (k : ∀ s' N', Fs G sc on B ((x, .lst ds) :: cx) env s' N' → Wp G A (execs rest env) Q E s')
    (hw : ∀ line env, EnvOk sc env → swapsWith e (some (Expr.Name x p)) line env = pure false := by intro _ _ _; rfl) : Wp G A (execs (.Assign [.Name x p] e p' :: rest) env) Q E s := by
  obtain ⟨h1, h2, h3⟩ := canSt.all hx
  refine wseq ⟨?_⟩
  with_reducible refine wpAny_Assign_Name ((he.go A env s N rm F.toVw).go _ _ fun a vs s1 N1 g1 h0 hN hl r1 => ?_) (hw _ _ F.envOk)
  obtain ⟨i1, i2, i3⟩ := fresh_list F g1 h0
  exact (F.gr g1).storeM h2 h1 h3 hl r1 i2 hN i1 i3 fun s' F' => k s' N1 F'
theorem ret_ {e : Expr} {p : Pos} {d : D} (F : Fs G sc on B cx env s N) (rm : Rm A n) (he : Ev G n sc cx e d)
    (k : ∀ v s' N', Fs G sc on B cx env s' N' → Rp N' v d → Q (.ret v) s') : Wp G A (execs (.Return (some e) p :: rest) env) Q E s := by
  refine wseq ⟨?_⟩
  with_reducible exact wpAny_Return_some ((he.go A env s N rm F.toVw).go _ _ fun v s1 N1 g1 r1 => k v s1 N1 (F.gr g1) r1)
theorem if_ {t : Expr} {b1 b2 : List Stmt} {p : Pos} {b : Bool} (F : Fs G sc on B cx env s N) (rm : Rm A n) (ht : EvT G n sc cx t b)
    (k1 : b = true → ∀ s' N', Fs G sc on B cx env s' N' → Wp G A (execs b1 env) (SeqQ G A env rest Q E) E s')
    (k2 : b = false → ∀ s' N', Fs G sc on B cx env s' N' → Wp G A (execs b2 env) (SeqQ G A env rest Q E) E s') : Wp G A (execs (.If t b1 b2 p :: rest) env) Q E s := by
  refine wseq ⟨?_⟩
  with_reducible refine wpAny_If ((ht.go A env s N rm F.toVw).go _ _ fun s1 N1 g1 => ?_)
  cases b with
  | true => exact (k1 rfl s1 N1 (F.gr g1)).go
  | false => exact (k2 rfl s1 N1 (F.gr g1)).go
structure Ip2 (G : Gs) (n : Nat) (op : Operator) (d1 d2 d : D) : Prop where
  go : ∀ A s N a b, Rm A n → Ok G s N → Rp N a d1 → Rp N b d2 → Sp G A s N (inplaceOp op a b) d
theorem aug {x : Str} {p p' : Pos} {op : Operator} {e : Expr} {d1 d2 d : D} {cx' : Cx} (F : Fs G sc on B cx env s N) (rm : Rm A n) (hm : (x, Ent.imm d1) ∈ cx) (he : Ev G n sc cx e d2) (ho : Ip2 G n op d1 d2 d)
    (hs : ∀ q ∈ cx', q ∈ cx) (hx : canSt sc on cx' x = true)
    (k : ∀ s' N', Fs G sc on B ((x, .imm d) :: cx') env s' N' → Wp G A (execs rest env) Q E s') : Wp G A (execs (.AugAssign (.Name x p) op e p' :: rest) env) Q E s := by
  obtain ⟨h1, h2, h3⟩ := canSt.all hx
  obtain ⟨v, a, b⟩ := F.vars _ _ hm
  refine wseq ⟨?_⟩
  with_reducible refine wpAny_AugAssign_Name (a.load F.fk ((he.go A env s N rm F.toVw).go _ _ fun v1 s1 N1 g1 r1 => ?_))
  refine (ho.go A s1 N1 _ _ rm (F.gr g1).toOk (b.mono g1.le) r1).go _ _ fun v2 s2 N2 g2 r2 => ?_
  exact (((F.gr g1).gr g2).sub hs).store h2 h1 h3 r2 fun s' F' => k s' N2 F'
theorem while_ {ι : Type} {t : Expr} {body : List Stmt} {p : Pos} (cxs : ι → Cx) (b : ι → Bool) (m : ι → Nat) (i₀ : ι) (F : Fs G sc on B (cxs i₀) env s N) (rm : Rm A n)
    (ht : ∀ i, EvT G n sc (cxs i) t (b i))
    (turn : ∀ i s N (Q' : Flow → Shared → Prop) (E' : Value → Shared → Prop), b i = true → Fs G sc on B (cxs i) env s N → (∀ j s' N', m j < m i → Fs G sc on B (cxs j) env s' N' → Q' .next s') → Wp G A (execs body env) Q' E' s)
    (k : ∀ i s' N', b i = false → Fs G sc on B (cxs i) env s' N' → Wp G A (execs rest env) Q E s') : Wp G A (execs (.While t body [] p :: rest) env) Q E s := by
  refine wseq ⟨?_⟩
  with_reducible refine wpAny_While (codeAny_whileLoop (fun c s' => ∃ i N', m i = c ∧ Fs G sc on B (cxs i) env s' N') ?_ (m i₀) ⟨i₀, N, rfl, F⟩)
  rintro c s' ⟨i, N', rfl, F'⟩
  refine (ht i).go A env s' N' rm F'.toVw |>.go _ _ fun s1 N1 g1 => ?_
  cases hb : b i with
  | true =>
    simp only [if_true]
    exact (turn i s1 N1 _ _ hb (F'.gr g1) fun j s2 N2 hm F2 => ⟨m j, hm, j, N2, rfl, F2⟩).go
  | false =>
    simp only [Bool.false_eq_true, if_false]
    with_reducible exact wpAny_execs_nil (k i s1 N1 hb (F'.gr g1))
end
end Mine
end
section
set_option tactic.hygienic false
open PySem PySem.W PyProof.Rows
namespace Mine

structure FnAt (N : Lg) (a : Addr) (fd : FuncData) : Prop where
  obj : ∃ o, N a o ∧ o.data = .func fd
  code : ∃ c oc vs t, fd.code = .ref c ∧ N c oc ∧ oc.data = .fields vs ∧ vs[1]? = some (.str fd.qualname t)

noncomputable def ownNames (sc : Scope) : List Str := (sc.names.filter (·.2 == .cell)).map (·.1)

theorem cellsFrom_some : ∀ (names : List (Str × NameKind)) (n : Nat) (acc : List (Str × Addr)) (x : Str), (x ∈ (names.filter (·.2 == .cell)).map (·.1) ∨ (acc.lookup x).isSome = true) → ((cellsFrom n names acc).lookup x).isSome = true
  | [], _, _, x, h => by
    rcases h with h | h
    · simp at h
    · exact h
  | (nm, kd) :: r, n, acc, x, h => by
    unfold cellsFrom
    cases hk : kd == NameKind.cell with
    | true =>
      simp only [if_true]
      refine cellsFrom_some r _ _ x ?_
      rcases h with h | h
      · simp only [List.filter_cons, hk, if_true, List.map_cons, List.mem_cons] at h
        rcases h with h | h
        · right; rw [List.lookup_cons, h]; simp
        · exact .inl h
      · right
        rw [List.lookup_cons]
        cases x == nm
        · exact h
        · rfl
    | false =>
      simp only [Bool.false_eq_true, if_false]
      refine cellsFrom_some r _ _ x ?_
      rcases h with h | h
      · simp only [List.filter_cons, hk, Bool.false_eq_true, if_false] at h; exact .inl h
      · exact .inr h

theorem bindL_ne {kind : Str → Option NameKind} : ∀ (bs : List (Str × Value)) (m : Str → Option Value) (x : Str), (∀ p ∈ bs, p.1 ≠ x) → bindL kind bs m x = m x
  | [], _, _, _ => rfl
  | (y, v) :: r, m, x, h => by
    unfold bindL
    rw [bindL_ne r _ x fun p hp => h p (.tail _ hp)]
    have : x ≠ y := fun e => h (y, v) (.head _) e.symm
    split
    · simp [this]
    · rfl
theorem bindC_ne {kind : Str → Option NameKind} : ∀ (bs : List (Str × Value)) (m : Str → Option Value) (x : Str), (∀ p ∈ bs, p.1 ≠ x) → bindC kind bs m x = m x
  | [], _, _, _ => rfl
  | (y, v) :: r, m, x, h => by
    unfold bindC
    rw [bindC_ne r _ x fun p hp => h p (.tail _ hp)]
    have : x ≠ y := fun e => h (y, v) (.head _) e.symm
    split
    · rfl
    · simp [this]
theorem bindL_mem {kind : Str → Option NameKind} (bs : List (Str × Value)) : ∀ (m : Str → Option Value) (x : Str) (v : Value), (bs.map (·.1)).Nodup → (x, v) ∈ bs → kind x = some .local → bindL kind bs m x = some v := by
  induction bs with
  | nil => intro m x v _ h; nomatch h
  | cons q r ih =>
    intro m x v hd hm hk
    rw [List.map_cons, List.nodup_cons] at hd
    unfold bindL
    rcases List.mem_cons.mp hm with e | hm
    · cases e
      rw [bindL_ne r _ _ fun p hp e => hd.1 (List.mem_map.mpr ⟨p, hp, e⟩)]
      simp [hk]
    · exact ih _ x v hd.2 hm hk
theorem bindC_mem {kind : Str → Option NameKind} (bs : List (Str × Value)) : ∀ (m : Str → Option Value) (x : Str) (v : Value), (bs.map (·.1)).Nodup → (x, v) ∈ bs → kind x ≠ some .local → bindC kind bs m x = some v := by
  induction bs with
  | nil => intro m x v _ h; nomatch h
  | cons q r ih =>
    intro m x v hd hm hk
    rw [List.map_cons, List.nodup_cons] at hd
    unfold bindC
    rcases List.mem_cons.mp hm with e | hm
    · cases e
      rw [bindC_ne r _ _ fun p hp e => hd.1 (List.mem_map.mpr ⟨p, hp, e⟩)]
      simp [hk]
    · exact ih _ x v hd.2 hm hk

noncomputable def parsOk (sc : Scope) (ps : List Str) : Bool := ps.all (fun x => okName x && (sc.names.lookup x == some .local || (sc.names.lookup x == some .cell && (ownNames sc).contains x))) && decide ps.Nodup
noncomputable def cxOf : List Str → List D → Cx
  | p :: ps, d :: ds => (p, .imm d) :: cxOf ps ds
  | _, _ => []
theorem cxOf_mem {N : Lg} {vs : List Value} {ds : List D} (h : Rps N vs ds) : ∀ {ps : List Str} {x : Str} {t : Ent}, (x, t) ∈ cxOf ps ds → ∃ v d, t = .imm d ∧ (x, v) ∈ ps.zip vs ∧ Rp N v d :=
  h.ind (C := fun vs ds => ∀ {ps : List Str} {x : Str} {t : Ent}, (x, t) ∈ cxOf ps ds → ∃ v d, t = .imm d ∧ (x, v) ∈ ps.zip vs ∧ Rp N v d) (fun {ps x t} e => by cases ps <;> nomatch e) fun v vs d ds hv _ ih ps x t e => by
    cases ps with
    | nil => nomatch e
    | cons p ps =>
      rcases List.mem_cons.mp e with e | h
      · cases e; exact ⟨v, d, rfl, .head _, hv⟩
      · obtain ⟨v', d', a, b, c⟩ := ih h
        exact ⟨v', d', a, .tail _ b, c⟩
theorem zip_nodup : ∀ {ps : List Str}, ps.Nodup → ∀ (vs : List Value), ((ps.zip vs).map (·.1)).Nodup
  | [], _, _ => by simp
  | p :: ps, h, [] => by simp
  | p :: ps, h, v :: vs => by
    rw [List.zip_cons_cons, List.map_cons, List.nodup_cons]
    rw [List.nodup_cons] at h
    refine ⟨fun hm => ?_, zip_nodup h.2 vs⟩
    obtain ⟨q, hq, e⟩ := List.mem_map.mp hm
    have e' : q.1 = p := e
    exact h.1 (e' ▸ (List.of_mem_zip (a := q.1) (b := q.2) hq).1)

section
variable {G : Gs} {n : Nat} {A : Around} {s : Shared} {N : Lg}

theorem call_fnC {a : Addr} {fd : FuncData} {body : List Stmt} {ps : List Str} {args : List D} {vs : List Value} {Q : Value → Shared → Prop} {E : Value → Shared → Prop} {E' : Env → Value → Shared → Prop} (hf : FnAt G.base a fd) (hbody : fd.body = .stmts body)
    (hbind : bindArgs fd ⟨vs, []⟩ = pure (ps.zip vs)) (hclo : fd.closure = []) (hg : fd.globals = mainGlobals) (hb : fd.builtins = builtinsNs) (hps : parsOk fd.scope ps = true)
    (hco : fd.scope.isCoroutine = false) (hgen : fd.scope.isGenerator = false) (hk : fd.scope.kind = .function)
    (rm : Rm A (n + 1)) (ok : Ok G s N) (hr : Rps N vs args)
    (hE : ∀ env e s', E' env e s' → wpAny G.M (A.deeper env) (leaving env e) (fun _ s'' => E e s'') E s')
    (h : ∀ env s1, env = callEnvC fd s.heap.objs.size a → Rm (A.deeper env) n → Fs G fd.scope (ownNames fd.scope) ⟨[], s, N⟩ (cxOf ps args) env s1 N →
      Wp G (A.deeper env) (execs body env) (fun f s' => Q (match f with | .ret v => v | _ => .none) s') (E' env) s1) : codeAny G.M A (.call (.ref a) ⟨vs, []⟩) (fun r s' => match r with | .ok (.ret v) => Q v s' | .ok _ => False | .error e => E e s') s := by
  obtain ⟨⟨o, ho, hd⟩, c, oc, vc, t, hc1, hc2, hc3, hc4⟩ := hf
  simp only [parsOk, Bool.and_eq_true, List.all_eq_true, Bool.or_eq_true, beq_iff_eq, decide_eq_true_eq, List.contains_eq_mem] at hps
  obtain ⟨hp1, hp2⟩ := hps
  have hzip : ∀ x ∈ ps.zip vs, x.1 ∈ ps := fun x hx => (List.of_mem_zip (a := x.1) (b := x.2) hx).1
  have hnd : ((ps.zip vs).map (·.1)).Nodup := zip_nodup hp2 vs
  refine codeAny_call_cells rm.lim (ok.hold _ _ (ok.tp _ _ ho)) hd ok.lim ⟨c, oc, vc, t, hc1, ok.hold _ _ (ok.tp _ _ hc2), hc3, hc4⟩ hbody hbind hclo (fun x hx => ?_) (fun s1 C => ?_) hco hgen hk
  · rcases (hp1 x.1 (hzip x hx)).2 with h | h
    · exact .inl h
    · exact .inr ⟨h.1, cellsFrom_some _ _ _ _ (.inl h.2)⟩
  · generalize henv : callEnvC fd s.heap.objs.size a = env at C ⊢
    have hloc : env.locals = s.heap.objs.size := by rw [← henv]; rfl
    have hsc : env.scope = fd.scope := by rw [← henv]; rfl
    have hcl : env.cells = cellsFrom (s.heap.objs.size + 1) fd.scope.names [] := by rw [← henv]; rfl
    have hkind : ∀ y, env.kindOf y = fd.scope.names.lookup y := fun y => by show env.scope.names.lookup y = _; rw [hsc]
    have hnone : ∀ b, s.heap.objs.size ≤ b → s.heap.get? b = none := fun b hb => Heap.get?_none_of_le hb
    have hN : ∀ b, s.heap.objs.size ≤ b → ∀ o, ¬ N b o := fun b hb o e => by have := ok.hold _ _ e; rw [hnone b hb] at this; cases this
    obtain ⟨h1, tk, hs1⟩ := C.toInCall.same
    have hF : Fs G fd.scope (ownNames fd.scope) ⟨[], s, N⟩ (cxOf ps args) env s1 N := by
      refine { tp := ok.tp, hold := fun b o e => C.toInCall.keep b o (ok.hold b o e), envOk := ⟨hsc, hk, by rw [← henv]; exact hg, by rw [← henv]; exact hb⟩, vars := ?_, keep := fun b o _ e => C.toInCall.keep b o e, le := fun _ _ e => e, new := fun _ _ e => .inl e, gens := by rw [hs1], os := by rw [hs1], loc := ⟨_, C.toInCall.ns⟩, L0 := by rw [hloc]; exact hnone _ (Nat.le_refl _), LN := by rw [hloc]; exact hN _ (Nat.le_refl _), cells := ?_, apart := ?_, ext := fun _ h => (nomatch h), lists := ?_ }
      · intro x t hx
        obtain ⟨v, d, rfl, hm, hv⟩ := cxOf_mem hr hx
        refine ⟨v, ⟨(hp1 x (hzip _ hm)).1, ?_⟩, hv⟩
        rcases (hp1 x (hzip _ hm)).2 with h | h
        · exact .inl ⟨(hkind x).trans h, _, C.toInCall.ns, bindL_mem _ _ _ _ hnd hm ((hkind x).trans h)⟩
        · have hso : (env.cells.lookup x).isSome = true := by rw [hcl]; exact cellsFrom_some _ _ _ _ (.inl h.2)
          obtain ⟨c', hc'⟩ := Option.isSome_iff_exists.mp hso
          have hcell := C.cell x c' hc'
          rw [bindC_mem _ _ _ _ hnd hm (by rw [hkind x, h.1]; decide)] at hcell
          exact .inr ⟨.inl ((hkind x).trans h.1), c', hc', hcell⟩
      · intro x hx
        have hso : (env.cells.lookup x).isSome = true := by rw [hcl]; exact cellsFrom_some _ _ _ _ (.inl hx)
        obtain ⟨c', hc'⟩ := Option.isSome_iff_exists.mp hso
        have hab := C.above x c' (PySem.mem_of_lookup hc')
        rw [hloc] at hab
        exact ⟨c', _, hc', C.cell x c' hc', hnone _ (Nat.le_of_lt hab), hN _ (Nat.le_of_lt hab)⟩
      · intro x y c' _ hx hy
        exact name_of_addr C.apart (PySem.mem_of_lookup hx) (PySem.mem_of_lookup hy)
      · have hno : ∀ x ds, (x, Ent.lst ds) ∉ cxOf ps args := fun x ds hx => by
          obtain ⟨v, d, e, _⟩ := cxOf_mem hr hx; cases e
        exact ⟨fun _ => 0, fun x ds hx => absurd hx (hno x ds), fun x y ds es hx _ => absurd hx (hno x ds)⟩
    refine wpAny_mono (h env s1 henv.symm rm.deeper hF).go (fun f s' q => ?_) (fun e s' q => ?_)
    · cases f <;> exact q
    · exact wpAny_mono (hE env e s' q) (fun _ _ z => z) fun _ _ z => z

theorem call_fn {a : Addr} {fd : FuncData} {body : List Stmt} {ps : List Str} {args : List D} {vs : List Value} {Q : Value → Shared → Prop} {E : Value → Shared → Prop} {E' : Env → Value → Shared → Prop} (hf : FnAt G.base a fd) (hbody : fd.body = .stmts body)
    (hbind : bindArgs fd ⟨vs, []⟩ = pure (ps.zip vs)) (hclo : fd.closure = []) (hg : fd.globals = mainGlobals) (hb : fd.builtins = builtinsNs) (hps : parsOk fd.scope ps = true)
    (hco : fd.scope.isCoroutine = false) (hgen : fd.scope.isGenerator = false) (hk : fd.scope.kind = .function)
    (rm : Rm A (n + 1)) (ok : Ok G s N) (hr : Rps N vs args)
    (hE : ∀ env e s', E' env e s' → wpAny G.M (A.deeper env) (leaving env e) (fun _ s'' => E e s'') E s')
    (h : ∀ env s1, env = callEnvC fd s.heap.objs.size a → Rm (A.deeper env) n → Fs G fd.scope (ownNames fd.scope) ⟨[], s, N⟩ (cxOf ps args) env s1 N →
      Wp G (A.deeper env) (execs body env) (fun f s' => Q (match f with | .ret v => v | _ => .none) s') (E' env) s1) : wpAny G.M A (call (.ref a) vs) Q E s :=
  wpAny_call (call_fnC hf hbody hbind hclo hg hb hps hco hgen hk rm ok hr hE h)

structure Fn (G : Gs) (n : Nat) (f : Value) (args : List D) (d : D) : Prop where
  go : ∀ A s N vs, Rm A n → Ok G s N → Rps N vs args → Sp G A s N (call f vs) d

theorem Fs.toGr {sc : Scope} {on : List Str} {s₀ : Shared} {N₀ : Lg} {B : Bse} {cx : Cx} {env : Env} (F : Fs G sc on B cx env s N) (hB : Bse.Le ⟨[], s₀, N₀⟩ B) : Gr s₀ N₀ s N := by
  have hs : B.s₀ = s₀ := hB.s
  refine ⟨fun a o e => F.keep a o (fun p hp q => ?_) (by rw [hs]; exact e), fun a o e => F.le a o (hB.le a o e), fun a o e => ?_, F.hold, F.gens.trans (by rw [hs]), F.os.trans (by rw [hs])⟩
  · rcases hB.x p hp with ⟨_, h, _⟩ | h
    · cases h
    · rw [q] at h; rw [h] at e; cases e
  · rcases F.new a o e with e | e
    · exact hB.new a o e
    · right; rw [hs] at e; exact e

structure Body (G : Gs) (n : Nat) (fd : FuncData) (body : List Stmt) (cx : Cx) (d : D) : Prop where
  go : ∀ A env B s N, Rm A n → Fs G fd.scope (ownNames fd.scope) B cx env s N → ∀ (Q : Flow → Shared → Prop) (E : Value → Shared → Prop), (∀ v s' N' B' sc' on' cx', B.Le B' → Fs G sc' on' B' cx' env s' N' → Rp N' v d → Q (.ret v) s') → Wp G A (execs body env) Q E s

theorem Fn.of {a : Addr} {fd : FuncData} {body : List Stmt} {ps : List Str} {args : List D} {d : D} (hf : FnAt G.base a fd) (hbody : fd.body = .stmts body)
    (hbind : ∀ vs : List Value, vs.length = args.length → bindArgs fd ⟨vs, []⟩ = pure (ps.zip vs)) (hclo : fd.closure = []) (hg : fd.globals = mainGlobals) (hb : fd.builtins = builtinsNs) (hps : parsOk fd.scope ps = true)
    (hco : fd.scope.isCoroutine = false) (hgen : fd.scope.isGenerator = false) (hk : fd.scope.kind = .function)
    (h : Body G n fd body (cxOf ps args) d) : Fn G (n + 1) (.ref a) args d := by
  refine ⟨fun A s N vs rm ok hr => ⟨fun Q E k => ?_⟩⟩
  refine call_fn (n := n) (E' := fun _ _ _ => False) hf hbody (hbind vs hr.length) hclo hg hb hps hco hgen hk rm ok hr (fun _ _ _ z => z.elim) fun env s1 he rm' F => ?_
  exact h.go _ env ⟨[], s, N⟩ s1 N rm' F _ _ fun v s' N' B' _ _ _ hB F' r => k v s' N' (F'.toGr hB) r

structure EvL (G : Gs) (n : Nat) (sc : Scope) (cx : Cx) (es : List Expr) (ds : List D) : Prop where
  go : ∀ A env s N pos, Rm A n → Vw G sc cx env s N → ∀ (Q : List Value → Shared → Prop) (E : Value → Shared → Prop), (∀ vs s' N', Gr s N s' N' → Rps N' vs ds → Q vs s') → wpAny G.M A (spliced (backTo pos (starEach es env))) Q E s
variable {sc : Scope} {cx : Cx}
theorem EvL.nil : EvL G n sc cx [] [] := ⟨fun _ _ _ _ _ _ z _ _ k => by with_reducible exact args_nil (k _ _ _ (Gr.refl z.toOk) .nil)⟩
theorem EvL.cons {e : Expr} {es : List Expr} {d : D} {ds : List D} (h : Ev G n sc cx e d) (t : EvL G n sc cx es ds) (he : ∀ env, starEach (e :: es) env = (false, eval e env) :: starEach es env := by intro _; rfl) : EvL G n sc cx (e :: es) (d :: ds) :=
  ⟨fun A env s N pos rm z Q E k => by with_reducible exact args_cons ((h.go A env s N rm z).go _ _ fun v s1 N1 g1 r1 => t.go A env s1 N1 pos rm (z.gr g1) _ _ fun vs s2 N2 g2 r2 => k _ _ _ (g1.trans g2) (.cons (r1.mono g2.le) r2)) (he env)⟩

theorem Ev.call {f : Str} {p pos : Pos} {e : Expr} {es : List Expr} {ds : List D} {d : D} {a : Addr} {fd : FuncData} (hn : Nm G sc f (.ref a)) (hf : FnAt G.base a fd) (ha : EvL G n sc cx (e :: es) ds) (hc : Fn G n (.ref a) ds d)
    (he : ∀ env, starEach (e :: es) env = (false, eval e env) :: starEach es env := by intro _; rfl) : Ev G n sc cx (.Call (.Name f p) (e :: es) [] pos) d := by
  refine ⟨fun A env s N rm z => ⟨fun Q E k => ?_⟩⟩
  obtain ⟨⟨o, ho, hd⟩, _⟩ := hf
  with_reducible refine wpAny_Call_NameR (hn.eval z (callWith_def (o := o) hd (ha.go A env s N pos rm z _ _ fun vs s1 N1 g1 r1 => ⟨(z.gr g1).toOk.at ho, ?_⟩) (he env)))
  exact (hc.go A s1 N1 vs rm (z.gr g1).toOk r1).go _ _ fun v s2 N2 g2 r2 => k _ _ _ (g1.trans g2) r2
end
end Mine
end
section
set_option tactic.hygienic false
open PySem PySem.W PyProof.Rows
namespace Mine
section
variable {G : Gs} {n : Nat}
theorem sp_tok {A : Around} {s : Shared} {N : Lg} {t : Sem Value} {d : D} (ok : Ok G s N) (h : ∀ (Q : Value → Shared → Prop) (E : Value → Shared → Prop), (∀ v tk, Rp N v d → Q v { s with toks := tk }) → wpAny G.M A t Q E s) : Sp G A s N t d :=
  ⟨fun Q E k => h Q E fun v tk r => k v _ N (Gr.toks ok tk) r⟩

theorem op_add {a b : Int} : Op2 G n .Add (.int a) (.int b) (.int (a + b)) := ⟨fun A s N x y rm ok h1 h2 => by
  cases h1; cases h2; exact sp_tok ok fun Q E k => by with_reducible exact PyProof.Rows.add_int (k _ _ (.int _ _))⟩
theorem op_sub {a b : Int} : Op2 G n .Sub (.int a) (.int b) (.int (a - b)) := ⟨fun A s N x y rm ok h1 h2 => by
  cases h1; cases h2; exact sp_tok ok fun Q E k => by with_reducible exact PyProof.Rows.sub_int (k _ _ (.int _ _))⟩
theorem op_mul {a b : Int} (h : IntMulOk a b) : Op2 G n .Mult (.int a) (.int b) (.int (a * b)) := ⟨fun A s N x y rm ok h1 h2 => by
  cases h1; cases h2; exact sp_tok ok fun Q E k => by with_reducible exact PyProof.Rows.mul_int (k _ _ (.int _ _)) h⟩
theorem op_mod {a b : Int} (hb : b ≠ 0) : Op2 G n .Mod (.int a) (.int b) (.int (a.fmod b)) := ⟨fun A s N x y rm ok h1 h2 => by
  cases h1; cases h2; exact sp_tok ok fun Q E k => by with_reducible exact PyProof.Rows.mod_int hb (k _ _ (.int _ _))⟩
theorem op_div {a b : Int} (hb : b ≠ 0) (hs : b.natAbs < 1073741824) : Op2 G n .FloorDiv (.int a) (.int b) (.int (a.fdiv b)) := ⟨fun A s N x y rm ok h1 h2 => by
  cases h1; cases h2; exact sp_tok ok fun Q E k => by with_reducible exact PyProof.Rows.floordiv_int hb (k _ _ (.int _ _)) (.inl (PyProof.noPylong_small hs))⟩
theorem op_shr {a b : Int} (hb : 0 ≤ b) : Op2 G n .RShift (.int a) (.int b) (.int (a.fdiv (2 ^ b.toNat))) := ⟨fun A s N x y rm ok h1 h2 => by
  cases h1; cases h2; exact sp_tok ok fun Q E k => by with_reducible exact PyProof.Rows.rshift_int hb (k _ _ (.int _ _))⟩
theorem op_and {a b : Int} : Op2 G n .BitAnd (.int a) (.int b) (.int (Builtin.bitAnd a b)) := ⟨fun A s N x y rm ok h1 h2 => by
  cases h1; cases h2; exact sp_tok ok fun Q E k => by with_reducible exact PyProof.Rows.and_int (k _ _ (.int _ _))⟩
theorem op_pow {a b : Int} (hb : 0 ≤ b) (hs : (Builtin.Int.intBits a : Int) * b ≤ 2 ^ 27) : Op2 G n .Pow (.int a) (.int b) (.int (a ^ b.toNat)) := ⟨fun A s N x y rm ok h1 h2 => by
  cases h1; cases h2; exact sp_tok ok fun Q E k => by with_reducible exact PyProof.Rows.pow_int hb hs (k _ _ (.int _ _))⟩
theorem op_subB {a b : Bool} : Op2 G n .Sub (.bool a) (.bool b) (.int (b2i a - b2i b)) := ⟨fun A s N x y rm ok h1 h2 => by
  cases h1; cases h2; exact sp_tok ok fun Q E k => by with_reducible exact PyProof.Rows.sub_bool (k _ _ (.int _ _))⟩
theorem op_addS {a b : Str} (h : a.length + b.length ≤ sizeLine) : Op2 G n .Add (.str a) (.str b) (.str (a ++ b)) := ⟨fun A s N x y rm ok h1 h2 => by
  cases h1; cases h2; exact sp_tok ok fun Q E k => by with_reducible exact PyProof.Rows.add_str (fun _ _ => k _ _ (.str _ _)) h⟩
theorem ip_add {a b : Int} : Ip2 G n .Add (.int a) (.int b) (.int (a + b)) := ⟨fun A s N x y rm ok h1 h2 => by
  cases h1; cases h2; exact sp_tok ok fun Q E k => by with_reducible exact PySem.P.iadd_int (k _ _ (.int _ _))⟩
theorem ip_sub {a b : Int} : Ip2 G n .Sub (.int a) (.int b) (.int (a - b)) := ⟨fun A s N x y rm ok h1 h2 => by
  cases h1; cases h2; exact sp_tok ok fun Q E k => by with_reducible exact PyProof.Rows.isub_int (k _ _ (.int _ _))⟩
theorem ip_addS {a b : Str} (h : a.length + b.length ≤ sizeLine) : Ip2 G n .Add (.str a) (.str b) (.str (a ++ b)) := ⟨fun A s N x y rm ok h1 h2 => by
  cases h1; cases h2; exact sp_tok ok fun Q E k => by with_reducible exact PyProof.Rows.iadd_str (fun _ _ => k _ _ (.str _ _)) h⟩

theorem cm_eq {a b : Int} : Cm2 G n .Eq (.int a) (.int b) (a == b) := ⟨fun A s N x y rm ok h1 h2 => ⟨fun Q E k => by
  cases h1; cases h2; with_reducible exact PyProof.Rows.eq_int (k _ _ (Gr.refl ok))⟩⟩
theorem cm_ne {a b : Int} : Cm2 G n .NotEq (.int a) (.int b) (a != b) := ⟨fun A s N x y rm ok h1 h2 => ⟨fun Q E k => by
  cases h1; cases h2; with_reducible exact PyProof.Rows.ne_int (k _ _ (Gr.refl ok))⟩⟩
theorem cm_lt {a b : Int} : Cm2 G n .Lt (.int a) (.int b) (decide (a < b)) := ⟨fun A s N x y rm ok h1 h2 => ⟨fun Q E k => by
  cases h1; cases h2; with_reducible exact PyProof.Rows.lt_int (k _ _ (Gr.refl ok))⟩⟩
theorem cm_gt {a b : Int} : Cm2 G n .Gt (.int a) (.int b) (decide (b < a)) := ⟨fun A s N x y rm ok h1 h2 => ⟨fun Q E k => by
  cases h1; cases h2; with_reducible exact PyProof.Rows.gt_int (k _ _ (Gr.refl ok))⟩⟩
theorem cm_le {a b : Int} : Cm2 G n .LtE (.int a) (.int b) (decide (a ≤ b)) := ⟨fun A s N x y rm ok h1 h2 => ⟨fun Q E k => by
  cases h1; cases h2; with_reducible exact PyProof.Rows.le_int (k _ _ (Gr.refl ok))⟩⟩
theorem cm_ge {a b : Int} : Cm2 G n .GtE (.int a) (.int b) (decide (b ≤ a)) := ⟨fun A s N x y rm ok h1 h2 => ⟨fun Q E k => by
  cases h1; cases h2; with_reducible exact PyProof.Rows.ge_int (k _ _ (Gr.refl ok))⟩⟩
theorem cm_eqS {a b : Str} : Cm2 G n .Eq (.str a) (.str b) (a == b) := ⟨fun A s N x y rm ok h1 h2 => ⟨fun Q E k => by
  cases h1; cases h2; with_reducible exact PyProof.Rows.eq_str (k _ _ (Gr.refl ok))⟩⟩
theorem cm_gtS {a b : Str} : Cm2 G n .Gt (.str a) (.str b) (decide (b.cps.toList < a.cps.toList)) := ⟨fun A s N x y rm ok h1 h2 => ⟨fun Q E k => by
  cases h1; cases h2; with_reducible exact PySem.P.gt_str (k _ _ (Gr.refl ok))⟩⟩
theorem cm_ltS {a b : Str} : Cm2 G n .Lt (.str a) (.str b) (decide (a.cps.toList < b.cps.toList)) := ⟨fun A s N x y rm ok h1 h2 => ⟨fun Q E k => by
  cases h1; cases h2; with_reducible exact PyProof.Rows.lt_str (k _ _ (Gr.refl ok))⟩⟩
theorem cm_neB {a b : Bool} : Cm2 G n .NotEq (.bool a) (.bool b) (a != b) := ⟨fun A s N x y rm ok h1 h2 => ⟨fun Q E k => by
  cases h1; cases h2; with_reducible exact PyProof.Rows.ne_bool (k _ _ (Gr.refl ok))⟩⟩
theorem tr_int {a : Int} : Tr G n (.int a) (a != 0) := ⟨fun A s N v rm ok h => ⟨fun Q E k => by
  cases h; with_reducible exact PyProof.Rows.truthy_int (k _ _ (Gr.refl ok))⟩⟩
end
end Mine
end
section
set_option tactic.hygienic false
open PySem PySem.W PyProof.Rows
namespace Mine

structure GrW (wr : List Addr) (s : Shared) (N : Lg) (s' : Shared) (N' : Lg) : Prop where
  keep : ∀ a o, a ∉ wr → s.heap.get? a = some o → s'.heap.get? a = some o
  le : ∀ a o, N a o → N' a o
  new : ∀ a o, N' a o → N a o ∨ s.heap.get? a = none
  hold : ∀ a o, N' a o → s'.heap.get? a = some o
  gens : s'.gens = s.gens
  os : s'.os = s.os
theorem Gr.w {s s' : Shared} {N N' : Lg} (g : Gr s N s' N') (wr : List Addr) : GrW wr s N s' N' := ⟨fun a o _ e => g.keep a o e, g.le, g.new, g.hold, g.gens, g.os⟩
theorem GrW.ok {G : Gs} {wr : List Addr} {s s1 : Shared} {N N1 : Lg} (x : GrW wr s N s1 N1) (h : Ok G s N) : Ok G s1 N1 := ⟨h.tp.mono x.le, x.hold⟩

noncomputable def Odd (h : Heap) (b : Addr) : Prop := ∃ o, h.get? b = some o ∧ (∀ es ep, o.data ≠ .dict es ep) ∧ (∀ v, o.data ≠ .cell v) ∧ o.cls ≠ .type "list"
theorem Odd.ns {h : Heap} {b a : Addr} {m : Str → Option Value} (x : Odd h b) (y : h.Ns a m) : a ≠ b := fun e => by
  obtain ⟨o, h1, h2, _⟩ := x; obtain ⟨o', es, ep, h3, h4, _⟩ := y
  rw [e, h1] at h3; cases h3; exact h2 _ _ h4
theorem Odd.cell {h : Heap} {b a : Addr} {v : Option Value} (x : Odd h b) (y : h.IsCell a v) : a ≠ b := fun e => by
  obtain ⟨o, h1, _, h2, _⟩ := x; obtain ⟨o', h3, h4⟩ := y
  rw [e, h1] at h3; cases h3; exact h2 _ h4
theorem Odd.list {h : Heap} {b a : Addr} {vs : Array Value} (x : Odd h b) (y : LstAt h a vs) : a ≠ b := fun e => by
  obtain ⟨o, h1, _, _, h2⟩ := x; obtain ⟨o', h3, h4, _⟩ := y
  rw [e, h1] at h3; cases h3; exact h2 h4.1

theorem Sees.but {wr : List Addr} {h h' : Heap} {env : Env} {x : Str} {v : Value} (z : Sees h env x v) (ho : ∀ b ∈ wr, Odd h b) (k : ∀ a o, a ∉ wr → h.get? a = some o → h'.get? a = some o) : Sees h' env x v := by
  obtain ⟨n, z⟩ := z
  rcases z with ⟨a, m, b, c⟩ | ⟨a, c, b, d⟩
  · refine ⟨n, .inl ⟨a, m, ?_, c⟩⟩
    have hb : env.locals ∉ wr := fun q => (ho _ q).ns b rfl
    obtain ⟨o, es, ep, e, r⟩ := b
    exact ⟨o, es, ep, k _ _ hb e, r⟩
  · refine ⟨n, .inr ⟨a, c, b, ?_⟩⟩
    have hb : c ∉ wr := fun q => (ho _ q).cell d rfl
    obtain ⟨o, e, r⟩ := d
    exact ⟨o, k _ _ hb e, r⟩
theorem VarOk.but {wr : List Addr} {env : Env} {h h' : Heap} {N N' : Lg} {x : Str} {t : Ent} (z : VarOk env h N x t) (ho : ∀ b ∈ wr, Odd h b) (k : ∀ a o, a ∉ wr → h.get? a = some o → h'.get? a = some o) (l : ∀ a o, N a o → N' a o) : VarOk env h' N' x t := by
  cases t with
  | imm d => obtain ⟨v, a, b⟩ := z; exact ⟨v, a.but ho k, b.mono l⟩
  | lst ds =>
    obtain ⟨a, vs, b, d, e⟩ := z
    have hb : a ∉ wr := fun q => (ho _ q).list d rfl
    obtain ⟨o, c, d⟩ := d
    exact ⟨a, vs, b.but ho k, ⟨o, k _ _ hb c, d⟩, e.mono l⟩

section
variable {G : Gs} {n : Nat} {A : Around} {sc : Scope} {on : List Str} {B : Bse} {cx : Cx} {env : Env} {s : Shared} {N : Lg}

theorem Fs.grw {wr : List Addr} {s' : Shared} {N' : Lg} (F : Fs G sc on B cx env s N) (g : GrW wr s N s' N') (ho : ∀ b ∈ wr, Odd s.heap b) (h0 : ∀ b ∈ wr, B.s₀.heap.get? b = none) (hX : ∀ p ∈ B.X, p.1 ∉ wr) : Fs G sc on B cx env s' N' := by
  have nn : ∀ {a : Addr} {o : Obj}, s.heap.get? a = some o → (∀ o, ¬ N a o) → ∀ o, ¬ N' a o := fun ha hn o e => by
    rcases g.new _ o e with e | e
    · exact hn o e
    · rw [ha] at e; cases e
  refine { g.ok F.toOk with envOk := F.envOk, vars := fun x t h => (F.vars x t h).but ho g.keep g.le, keep := fun a o h e => g.keep a o (fun q => by rw [h0 a q] at e; cases e) (F.keep a o h e), le := fun a o e => g.le a o (F.le a o e), new := fun a o e => ?_, gens := g.gens.trans F.gens, os := g.os.trans F.os, loc := ?_, L0 := F.L0, LN := ?_, cells := ?_, apart := F.apart, ext := ?_, lists := ?_ }
  · rcases g.new a o e with e | e
    · exact F.new a o e
    · by_cases hp : ∀ p ∈ B.X, p.1 ≠ a
      · right
        cases q : B.s₀.heap.get? a with
        | none => rfl
        | some o' => rw [F.keep a o' hp q] at e; cases e
      · have ⟨p, hp1, hp2⟩ : ∃ p ∈ B.X, p.1 = a := by
          apply Classical.byContradiction; intro h; exact hp fun p h1 h2 => h ⟨p, h1, h2⟩
        rw [← hp2, (F.ext p hp1).1] at e; cases e
  · obtain ⟨m, h⟩ := F.loc
    have hb : env.locals ∉ wr := fun q => (ho _ q).ns h rfl
    obtain ⟨o, es, ep, e, r⟩ := h
    exact ⟨m, o, es, ep, g.keep _ _ hb e, r⟩
  · obtain ⟨m, o, es, ep, h, _⟩ := F.loc; exact nn h F.LN
  · intro x hx
    obtain ⟨c, v, a, hc, b, d⟩ := F.cells x hx
    have hb : c ∉ wr := fun q => (ho _ q).cell hc rfl
    obtain ⟨o, ho', hd⟩ := hc
    exact ⟨c, v, a, ⟨o, g.keep _ _ hb ho', hd⟩, b, nn ho' d⟩
  · intro p hp
    obtain ⟨a, b, c, d⟩ := F.ext p hp
    exact ⟨g.keep _ _ (hX p hp) a, nn a b, c, d⟩
  · obtain ⟨al, h1, h2⟩ := F.lists
    refine ⟨al, fun x ds hx => ?_, h2⟩
    obtain ⟨vs, a, hl, b, c, d, e⟩ := h1 x ds hx
    have hb : al x ∉ wr := fun q => (ho _ q).list hl rfl
    obtain ⟨o, ho', hc⟩ := hl
    exact ⟨vs, a.but ho g.keep, ⟨o, g.keep _ _ hb ho', hc⟩, b.mono g.le, c, nn ho' d, e⟩

structure Itr (G : Gs) (A : Around) (it : Value) (tgt : Expr) (wr : List Addr) (N : Lg) (items : List D) (St : Nat → Heap → Prop) : Prop where
  frame : ∀ i h h', St i h → (∀ b ∈ wr, h'.get? b = h.get? b) → St i h'
  odd : ∀ i h, St i h → ∀ b ∈ wr, Odd h b
  next : ∀ i s N' d, items[i]? = some d → St i s.heap → Ok G s N' → (∀ a o, N a o → N' a o) → (∀ b ∈ wr, ∀ o, ¬ N' b o) → ∀ (Q : Value → Shared → Prop) (E : Value → Shared → Prop),
    (∀ v s' N'', GrW wr s N' s' N'' → St (i + 1) s'.heap → Rp N'' v d → Q v s') → wpAny G.M A (pyNext it) (fun r s1 => match r with | none => False | some v => wpAny G.M A (letOwnedTupleGo tgt it v) (fun _ s2 => Q v s2) E s1) E s
  stop : ∀ s N', St items.length s.heap → Ok G s N' → (∀ a o, N a o → N' a o) → (∀ b ∈ wr, ∀ o, ¬ N' b o) → ∀ (Q : Option Value → Shared → Prop) (E : Value → Shared → Prop), (∀ s', GrW wr s N' s' N' → Q none s') → wpAny G.M A (pyNext it) Q E s
  self : ∀ i s (Q : Value → Shared → Prop) (E : Value → Shared → Prop), (∀ a o, N a o → s.heap.get? a = some o) → St i s.heap → Q it s → wpAny G.M A (pyIter it) Q E s

structure EvI (G : Gs) (n : Nat) (sc : Scope) (cx : Cx) (e : Expr) (tgt : Expr) (items : List D) : Prop where
  go : ∀ A env s N, Rm A n → Vw G sc cx env s N → ∀ (Q : Value → Shared → Prop) (E : Value → Shared → Prop),
    (∀ it wr s' N' St, Gr s N s' N' → (∀ b ∈ wr, s.heap.get? b = none) → (∀ b ∈ wr, ∀ o, ¬ N' b o) → Itr G A it tgt wr N' items St → St 0 s'.heap → Q it s') →
    wpAny G.M A (eval e env) (fun x s1 => wpAny G.M A (pyIter x) Q E s1) E s

structure Tgt (G : Gs) (sc : Scope) (on : List Str) (cx : Cx) (tgt : Expr) (d : D) (add : Cx) : Prop where
  go : ∀ A B env s N v, A.handled = none → Fs G sc on B cx env s N → Rp N v d → ∀ (Q : Unit → Shared → Prop) (E : Value → Shared → Prop), (∀ s' N', Fs G sc on B (add ++ cx) env s' N' → Q () s') → wpAny G.M A (assign tgt env v) Q E s
theorem Tgt.name {x : Str} {p : Pos} {d : D} (hx : canSt sc on cx x = true) : Tgt G sc on cx (.Name x p) d [(x, .imm d)] := by
  obtain ⟨h1, h2, h3⟩ := canSt.all hx
  refine ⟨fun A B env s N v hh F r Q E k => ?_⟩
  with_reducible refine wpAny_assign_Name ?_
  exact F.store h2 h1 h3 r fun s' F' => k s' N F'
end

section
variable {G : Gs} {n : Nat} {A : Around} {sc : Scope} {on : List Str} {B : Bse} {cx : Cx} {env : Env} {s : Shared} {N : Lg}
variable {Q : Flow → Shared → Prop} {E : Value → Shared → Prop} {rest : List Stmt}

theorem codeAny_for {prog : Program} {w : World} {A : Around} {R : Result → Shared → Prop} {s : Shared} {target : Expr} {it : Value} {body : List Stmt} {env : Env} (I : Nat → Shared → Prop)
    (turn : ∀ n s, I n s → wpAny (model prog w) A (pyNext it) (fun r s₁ => match r with
      | none => R (.ok .next) s₁
      | some v => wpAny (model prog w) A (letOwnedTupleGo target it v) (fun _ s₁' =>
          wpAny (model prog w) A (assign target env v) (fun _ s₂ => wpAny (model prog w) A (execs body env) (fun f s₃ => match f with
            | .next | .cont => ∃ m, m < n ∧ I m s₃
            | .brk => R (.ok .next) s₃
            | .ret v => R (.ok (.ret v)) s₃) (notedBy (model prog w) A env fun e s' => R (.error e) s') s₂) (notedBy (model prog w) A env fun e s' => R (.error e) s') s₁') (notedBy (model prog w) A env fun e s' => R (.error e) s') s₁) (notedBy (model prog w) A env fun e s' => R (.error e) s') s)
    (n : Nat) (h : I n s) : codeAny (model prog w) A (.forLoop target it body [] env) R s := by
  refine codeAny_forLoop_any I (fun n s hI => wpAny_mono (turn n s hI) (fun r s1 h1 => ?_) (fun _ _ q => q)) n h
  cases r with
  | none => exact wpAny_execs_nil h1
  | some v => exact h1

noncomputable def XW (h : Heap) (wr : List Addr) : List (Addr × Obj) := wr.filterMap fun b => (h.get? b).map fun o => (b, o)
theorem XW_mem {h : Heap} {wr : List Addr} {p : Addr × Obj} (hp : p ∈ XW h wr) : p.1 ∈ wr ∧ h.get? p.1 = some p.2 := by
  obtain ⟨b, hb, e⟩ := List.mem_filterMap.mp hp
  obtain ⟨o, ho, e⟩ := Option.map_eq_some_iff.mp e
  subst e; exact ⟨hb, ho⟩
theorem mem_XW {h : Heap} {wr : List Addr} {b : Addr} {o : Obj} (hb : b ∈ wr) (ho : h.get? b = some o) : (b, o) ∈ XW h wr := List.mem_filterMap.mpr ⟨b, hb, by rw [ho]; rfl⟩
noncomputable abbrev Bse.w (B : Bse) (h : Heap) (wr : List Addr) (N : Lg) : Bse := ⟨XW h wr ++ B.X, B.s₀, N⟩
theorem Fs.ext_w {wr : List Addr} (F : Fs G sc on B cx env s N) (ho : ∀ b ∈ wr, Odd s.heap b) (h0 : ∀ b ∈ wr, B.s₀.heap.get? b = none) (hN : ∀ b ∈ wr, ∀ o, ¬ N b o) : Fs G sc on (B.w s.heap wr N) cx env s N ∧ B.Le (B.w s.heap wr N) := by
  refine ⟨{ F with keep := fun a o h e => F.keep a o (fun p hp => h p (List.mem_append_right _ hp)) e, le := fun _ _ e => e, new := fun _ _ e => .inl e, ext := fun p hp => ?_, lists := ?_ }, ⟨rfl, fun p hp => ?_, F.le, F.new⟩⟩
  · rcases List.mem_append.mp hp with hp | hp
    · obtain ⟨h1, h2⟩ := XW_mem hp
      obtain ⟨m, hm⟩ := F.loc
      refine ⟨h2, hN _ h1, fun e => (ho _ h1).ns hm e.symm, fun x hx e => ?_⟩
      obtain ⟨c, v, a, b, _⟩ := F.cells x hx
      rw [a] at e; cases e
      exact (ho _ h1).cell b rfl
    · exact F.ext p hp
  · obtain ⟨al, h1, h2⟩ := F.lists
    refine ⟨al, fun x ds hx => ?_, h2⟩
    obtain ⟨vs, a, b, c, d, e, f⟩ := h1 x ds hx
    refine ⟨vs, a, b, c, d, e, fun p hp => ?_⟩
    rcases List.mem_append.mp hp with hp | hp
    · exact fun q => (ho _ (XW_mem hp).1).list b q.symm
    · exact f p hp
  · rcases List.mem_append.mp hp with hp | hp
    · exact .inr (h0 _ (XW_mem hp).1)
    · exact .inl ⟨p, hp, rfl⟩
theorem Fs.weak {X' : List (Addr × Obj)} {N2 : Lg} (F : Fs G sc on ⟨X', B.s₀, N2⟩ cx env s N) (hB : B.Le ⟨X', B.s₀, N2⟩) (hX : ∀ p ∈ B.X, p ∈ X') : Fs G sc on B cx env s N := by
  refine { F with keep := fun a o hp e => F.keep a o (fun p hp' q => ?_) e, le := fun a o e => F.le a o (hB.le a o e), new := fun a o e => (F.new a o e).elim (fun e => hB.new a o e) .inr, ext := fun p hp => F.ext p (hX p hp), lists := ?_ }
  · rcases hB.x p hp' with ⟨q', hq', e'⟩ | e'
    · exact hp q' hq' (e'.trans q)
    · rw [q] at e'; have : B.s₀.heap.get? a = some o := e; rw [e'] at this; cases this
  · obtain ⟨al, h1, h2⟩ := F.lists
    exact ⟨al, fun x ds hx => let ⟨vs, a, b, c, d, e, f⟩ := h1 x ds hx; ⟨vs, a, b, c, d, e, fun p hp => f p (hX p hp)⟩, h2⟩
theorem Fs.ret_w {wr : List Addr} {h : Heap} {N2 : Lg} (F : Fs G sc on (B.w h wr N2) cx env s N) (hB : B.Le (B.w h wr N2)) : Fs G sc on B cx env s N := F.weak hB fun p hp => List.mem_append_right _ hp
end
end Mine
end
section
set_option tactic.hygienic false
open PySem PySem.W PyProof.Rows
namespace Mine

noncomputable def relabelS (scope sc : Scope) : Scope :=
  { scope with names := scope.names.map fun (n, k) => if (k == .free && sc.kind == .function && sc.names.lookup n == some .cell) then (n, .cell) else (n, k) }
theorem relabel_eq (scope : Scope) (env : Env) : relabel scope env = relabelS scope env.scope := rfl
theorem lookup_mapk {f : Str → NameKind → NameKind} : ∀ (l : List (Str × NameKind)) (x : Str), (l.map fun p => (p.1, f p.1 p.2)).lookup x = (l.lookup x).map (f x)
  | [], _ => rfl
  | (n, k) :: r, x => by
    rw [List.map_cons, List.lookup_cons, List.lookup_cons]
    cases h : x == n with
    | true => rw [eq_of_beq h]; rfl
    | false => exact lookup_mapk r x
theorem relabelS_lookup (scope sc : Scope) (x : Str) : (relabelS scope sc).names.lookup x = (scope.names.lookup x).map fun k => if (k == .free && sc.kind == .function && sc.names.lookup x == some .cell) then .cell else k := by
  show (scope.names.map _).lookup x = _
  rw [← lookup_mapk (f := fun n k => if (k == .free && sc.kind == .function && sc.names.lookup n == some .cell) then .cell else k)]
  congr 1
  apply List.map_congr_left
  rintro ⟨n, k⟩ _
  dsimp only
  split <;> rfl

theorem cellsFrom_acc : ∀ (names : List (Str × NameKind)) (n : Nat) (acc : List (Str × Addr)), cellsFrom n names acc = cellsFrom n names [] ++ acc
  | [], _, _ => rfl
  | (nm, kd) :: r, n, acc => by
    unfold cellsFrom
    split
    · rw [cellsFrom_acc r (n + 1) ((nm, n) :: acc), cellsFrom_acc r (n + 1) [(nm, n)], List.append_assoc]; rfl
    · exact cellsFrom_acc r n acc
theorem lookup_append' {α : Type} : ∀ (l r : List (Str × α)) (x : Str), (l ++ r).lookup x = (l.lookup x).or (r.lookup x)
  | [], _, _ => rfl
  | (k, v) :: l, r, x => by
    rw [List.cons_append, List.lookup_cons, List.lookup_cons]
    cases x == k
    · exact lookup_append' l r x
    · rfl
theorem cellsFrom_mem : ∀ (names : List (Str × NameKind)) (n : Nat) (x : Str) (c : Addr), (x, c) ∈ cellsFrom n names [] → x ∈ (names.filter (·.2 == .cell)).map (·.1)
  | [], _, _, _, h => by cases h
  | (nm, kd) :: r, n, x, c, h => by
    unfold cellsFrom at h
    cases hk : kd == NameKind.cell with
    | true =>
      rw [hk, if_pos rfl, cellsFrom_acc] at h
      rw [List.filter_cons, if_pos (by exact hk), List.map_cons]
      rcases List.mem_append.mp h with h | h
      · exact .tail _ (cellsFrom_mem r _ x c h)
      · rcases List.mem_singleton.mp h with h; cases h; exact .head _
    | false =>
      rw [hk, if_neg (by decide)] at h
      rw [List.filter_cons, if_neg (by rw [hk]; decide)]
      exact cellsFrom_mem r _ x c h
theorem cellsFrom_none {names : List (Str × NameKind)} {n : Nat} {x : Str} (h : x ∉ (names.filter (·.2 == .cell)).map (·.1)) : (cellsFrom n names []).lookup x = none := by
  cases q : (cellsFrom n names []).lookup x with
  | none => rfl
  | some c => exact absurd (cellsFrom_mem names n x c (PySem.mem_of_lookup q)) h

noncomputable def cOf (env : Env) (x : Str) : Addr := (env.cells.lookup x).getD 0
theorem closureFor_go {env : Env} (names : List (Str × NameKind)) : ∀ (acc : List (Str × Addr)), (∀ x, (x, NameKind.free) ∈ names → env.cells.lookup x = some (cOf env x)) →
    (forIn names acc fun (x : Str × NameKind) (cs : List (Str × Addr)) => (if x.2 == .free then (do let a ← cellOf env x.1; pure (ForInStep.yield ((x.1, a) :: cs))) else pure (ForInStep.yield cs) : Sem _)) = pure (((names.filter fun x => x.2 == .free).map fun x => (x.1, cOf env x.1)).reverse ++ acc) := by
  induction names with
  | nil => intro acc _; rfl
  | cons q r ih =>
    intro acc h
    rw [List.forIn_cons, List.filter_cons]
    cases hk : q.2 == NameKind.free with
    | true =>
      have hcell : cellOf env q.1 = pure (cOf env q.1) := by
        unfold cellOf; rw [h q.1 (by rw [← show q.2 = .free by simpa using hk]; exact .head _)]
      rw [if_pos rfl, if_pos rfl, hcell, List.map_cons, List.reverse_cons, List.append_assoc]
      exact ih _ fun x hx => h x (.tail _ hx)
    | false =>
      rw [if_neg (by simp), if_neg (by simp)]
      exact ih _ fun x hx => h x (.tail _ hx)
theorem closureFor_ex {env : Env} {scope : Scope} (h1 : ∀ x, (x, NameKind.free) ∈ scope.names → ∃ c, env.cells.lookup x = some c) :
    ∃ cl, closureFor scope env = pure cl ∧ (∀ x c, cl.lookup x = some c → env.cells.lookup x = some c) ∧ (∀ x, (x, NameKind.free) ∈ scope.names → (cl.lookup x).isSome = true) ∧ (∀ x c, cl.lookup x = some c → (x, NameKind.free) ∈ scope.names) := by
  have h2 : ∀ x, (x, NameKind.free) ∈ scope.names → env.cells.lookup x = some (cOf env x) := fun x hx => by
    have ⟨c, hc⟩ := h1 x hx
    unfold cOf; rw [hc]; rfl
  have hm : ∀ x c, (x, c) ∈ ((scope.names.filter fun x => x.2 == .free).map fun x => (x.1, cOf env x.1)).reverse ↔ (x, NameKind.free) ∈ scope.names ∧ c = cOf env x := fun x c => by
    rw [List.mem_reverse, List.mem_map]
    refine ⟨fun ⟨q, hq, e⟩ => ?_, fun ⟨hx, hc⟩ => ⟨(x, .free), List.mem_filter.mpr ⟨hx, rfl⟩, by rw [hc]⟩⟩
    have ⟨h, hk⟩ := List.mem_filter.mp hq
    cases e
    exact ⟨by rw [← show q.2 = .free by simpa using hk]; exact h, rfl⟩
  refine ⟨_, ?_, fun x c e => ?_, fun x hx => ?_, fun x c e => ((hm x c).mp (PySem.mem_of_lookup e)).1⟩
  · unfold closureFor
    rw [← bind_pure (pure _ : Sem _), ← List.append_nil (List.reverse _), ← closureFor_go scope.names [] h2]
  · have ⟨h, hc⟩ := (hm x c).mp (PySem.mem_of_lookup e)
    rw [hc]; exact h2 x h
  · rw [List.lookup_isSome_iff]
    exact ⟨_, (hm x _).mpr ⟨hx, rfl⟩, beq_self_eq_true _⟩
theorem Sees.uniq {h : Heap} {env : Env} {y : Str} {v v' : Value} (p : Sees h env y v) (q : Sees h env y v') : v = v' := by
  obtain ⟨_, z | z⟩ := p <;> obtain ⟨_, z' | z'⟩ := q
  · obtain ⟨_, m, ⟨o1, es1, ep1, e1, e2, e3, e4⟩, q1⟩ := z
    obtain ⟨_, m', ⟨o2, es2, ep2, f1, f2, f3, f4⟩, q2⟩ := z'
    rw [e1] at f1; cases f1; rw [e2] at f2; cases f2
    have := (e4 y).symm.trans (f4 y); rw [q1, q2] at this; cases this; rfl
  · have h1 := z.1; rcases z'.1 with h2 | h2 <;> (rw [h1] at h2; cases h2)
  · have h1 := z'.1; rcases z.1 with h2 | h2 <;> (rw [h1] at h2; cases h2)
  · obtain ⟨_, c, l, ⟨o1, e1, e2⟩⟩ := z
    obtain ⟨_, c', l', ⟨o2, f1, f2⟩⟩ := z'
    rw [l] at l'; cases l'; rw [e1] at f1; cases f1; rw [e2] at f2; cases f2; rfl

section
variable {G : Gs} {n : Nat} {A : Around} {sc : Scope} {on : List Str} {B : Bse} {cx : Cx} {env : Env} {s : Shared} {N : Lg}
theorem Fs.setX {X' : List (Addr × Obj)} {h' : Heap} {tk : Nat} (F : Fs G sc on B cx env s N) (hc : ∀ p ∈ B.X, ∀ v, p.2.data ≠ .cell v) (ha : ∀ p ∈ X', ∃ q ∈ B.X, q.1 = p.1) (hb : ∀ p ∈ B.X, ∃ q ∈ X', q.1 = p.1) (ho : ∀ p ∈ X', h'.get? p.1 = some p.2)
    (hs : ∀ b, (∀ p ∈ B.X, p.1 ≠ b) → h'.get? b = s.heap.get? b) : Fs G sc on ⟨X', B.s₀, B.N₀⟩ cx env { s with heap := h', toks := tk } N := by
  have hL : ∀ p ∈ B.X, p.1 ≠ env.locals := fun p hp => (F.ext p hp).2.2.1
  have hsee : ∀ x v, Sees s.heap env x v → Sees h' env x v := fun x v ⟨n, z⟩ => by
    rcases z with ⟨a, m, b, c⟩ | ⟨a, c, b, d⟩
    · obtain ⟨o, es, ep, e, r⟩ := b
      exact ⟨n, .inl ⟨a, m, ⟨o, es, ep, (hs _ hL).trans e, r⟩, c⟩⟩
    · obtain ⟨o, e, r⟩ := d
      refine ⟨n, .inr ⟨a, c, b, ⟨o, (hs _ fun p hp q => ?_).trans e, r⟩⟩⟩
      have := (F.ext p hp).1
      rw [q, e] at this; cases this
      exact hc p hp _ r
  obtain ⟨al, h1, h2⟩ := F.lists
  refine { tp := F.tp, hold := fun a o e => (hs a fun p hp q => (F.ext p hp).2.1 o (q ▸ e)).trans (F.hold a o e), envOk := F.envOk, vars := fun x t hx => ?_, keep := fun a o h e => ?_, le := F.le, new := F.new, gens := F.gens, os := F.os, loc := ?_, L0 := F.L0, LN := F.LN, cells := ?_, apart := F.apart, ext := fun p hp => ?_, lists := ⟨al, fun x ds hx => ?_, h2⟩ }
  · have z := F.vars x t hx
    cases t with
    | imm d => obtain ⟨v, p, q⟩ := z; exact ⟨v, hsee x v p, q⟩
    | lst ds =>
      obtain ⟨b, vs, p, ⟨o, q, q'⟩, r⟩ := z
      obtain ⟨vs', p', _, _, _, _, e⟩ := h1 x ds hx
      have hb' : Value.ref b = .ref (al x) := p.uniq p'
      cases hb'
      exact ⟨_, vs, hsee x _ p, ⟨o, (hs _ e).trans q, q'⟩, r⟩
  · have hp : ∀ p ∈ B.X, p.1 ≠ a := fun p hp q => by obtain ⟨q', hq', e'⟩ := hb p hp; exact h q' hq' (e'.trans q)
    exact (hs a hp).trans (F.keep a o hp e)
  · obtain ⟨m, o, es, ep, e, r⟩ := F.loc; exact ⟨m, o, es, ep, (hs _ hL).trans e, r⟩
  · intro x hx
    obtain ⟨c, v, a, ⟨o, e, r⟩, b, d⟩ := F.cells x hx
    exact ⟨c, v, a, ⟨o, (hs _ fun p hp q => (F.ext p hp).2.2.2 x hx (q ▸ a)).trans e, r⟩, b, d⟩
  · obtain ⟨q, hq, e⟩ := ha p hp
    have z := F.ext q hq
    rw [e] at z
    exact ⟨ho p hp, z.2.1, z.2.2⟩
  · obtain ⟨vs, a, ⟨o, q, q'⟩, c, d, e, f⟩ := h1 x ds hx
    refine ⟨vs, hsee x _ a, ⟨o, (hs _ f).trans q, q'⟩, c, d, e, fun p hp => ?_⟩
    obtain ⟨q, hq, e'⟩ := ha p hp
    rw [← e']; exact f q hq
end

noncomputable def eraseH (h : Heap) (wr : List Addr) : Heap := ⟨h.objs.mapIdx fun i o => if i ∈ wr then { o with data := .freed } else o, h.life⟩
theorem eraseH_get (h : Heap) (wr : List Addr) (a : Addr) : (eraseH h wr).get? a = if a ∈ wr then none else h.get? a := by
  show (match (h.objs.mapIdx fun i o => if i ∈ wr then { o with data := .freed } else o)[a]? with | some ⟨_, _, .freed, _⟩ => none | o => o) = _
  rw [Array.getElem?_mapIdx]
  by_cases hw : a ∈ wr
  · simp only [hw, if_true]
    cases h.objs[a]? <;> rfl
  · simp only [hw, if_false]
    show _ = (match h.objs[a]? with | some ⟨_, _, .freed, _⟩ => none | o => o)
    cases h.objs[a]? <;> rfl
end Mine
end
section
set_option tactic.hygienic false
open PySem PySem.W PyProof.Rows
namespace Mine
section
variable {prog : Program} {w : World} {A : Around} {R : Result → Shared → Prop} {s : Shared}
theorem comp_loop {elt target iter : Expr} {ifs : List Expr} {scope : Scope} {pos : Pos} {it acc : Value} {env : Env} (I : Nat → Shared → Prop)
    (turn : ∀ n s, I n s → wpAny (model prog w) A (pyNext it) (fun r s₁ => match r with
      | none => R (.ok .next) s₁
      | some v => wpAny (model prog w) A (letOwnedTupleGo target it v) (fun _ s₁' => wpAny (model prog w) A (assign target env v) (fun _ s₂ =>
          wpAny (model prog w) A (forIn ifs true fun c r => if r = true then do let ok ← isTrue c env (eval c env); pure (ForInStep.yield ok) else pure (ForInStep.yield r)) (fun ok s₃ =>
            if ok = true then wpAny (model prog w) A (eval elt env) (fun x s₄ =>
              wpAny (model prog w) A (call (.builtin "list.append") [acc, x]) (fun _ s₅ => ∃ m, m < n ∧ I m s₅) (notedBy (model prog w) A env fun e s' => R (.error e) s') s₄) (notedBy (model prog w) A env fun e s' => R (.error e) s') s₃
            else ∃ m, m < n ∧ I m s₃) (notedBy (model prog w) A env fun e s' => R (.error e) s') s₂) (notedBy (model prog w) A env fun e s' => R (.error e) s') s₁') (notedBy (model prog w) A env fun e s' => R (.error e) s') s₁) (notedBy (model prog w) A env fun e s' => R (.error e) s') s)
    (n : Nat) (h : I n s) : codeAny (model prog w) A (.compLoop (.ListComp elt [⟨target, iter, ifs, 0⟩] scope pos) 0 it acc env) R s := by
  refine codeAny_loop rfl I (fun n s hI => ?_) n h
  show wpAny _ A ((compTurn (.ListComp elt [⟨target, iter, ifs, 0⟩] scope pos) 0 it acc env).onRaise (fun x => do noteFrame x env; theTreesLotGoes x)) _ _ s
  refine wpAny_noted ?_
  rw [compTurn_list]
  refine wpAny_bind (wpAny_standAt (wpAny_bind (wpAny_mono (turn n s hI) (fun r s₁ h₁ => ?_) fun _ _ h' => h')))
  cases r with
  | none => exact wpAny_pure h₁
  | some v =>
    refine wpAny_bind (wpAny_mono h₁ (fun _ s₁' h₁' => ?_) fun _ _ h' => h')
    refine wpAny_bind (wpAny_mono h₁' (fun _ s₂ h₂ => wpAny_bind (wpAny_mono h₂ (fun ok s₃ h₃ => ?_) fun _ _ h' => h')) fun _ _ h' => h')
    cases ok with
    | false => exact wpAny_pure ⟨rfl, h₃⟩
    | true =>
      exact wpAny_bind (wpAny_bind (wpAny_mono h₃ (fun x s₄ h₄ => wpAny_bind (wpAny_mono h₄ (fun _ s₅ h₅ => wpAny_pure (wpAny_pure ⟨rfl, h₅⟩)) fun _ _ h' => h')) fun _ _ h' => h'))
end
theorem append_lst {prog : Program} {w : World} {A : Around} {E : Value → Shared → Prop} {s : Shared} {l : Addr} {items : Array Value} {x : Value} {Q : Value → Shared → Prop} (hsz : items.size ≤ sizeLine) (hl : LstAt s.heap l items)
    (hQ : ∀ h', LstAt h' l (items.push x) → Heap.SameBut l s.heap h' → Q .none { s with heap := h' }) : wpAny (model prog w) A (call (.builtin "list.append") [.ref l, x]) Q E s := by
  obtain ⟨o, ho, hc, n, hd⟩ := hl
  obtain ⟨n', hd'⟩ := Obj.data_mapSeq hd (·.push x)
  refine wpAny_call_entry slot_list_append ⟨o, ho, hc.1⟩ entry_list_append ?_ (args_list_append _ _)
  show wpAny _ _ (updateSeq l (·.push x) >>= fun _ => ret .none) _ _ s
  refine wpAny_bind ?_
  refine wpAny_updateSeq ho hd (wpAny_pure ⟨.none, rfl, hQ _ ?_ (Heap.SameBut.update ..)⟩) hsz
  refine ⟨_, Heap.get?_update_self _ ho (Obj.isFreed_of_seq hd'), ⟨(Obj.cls_mapSeq ..).trans hc.1, ?_⟩, n', hd'⟩
  obtain ⟨c, d, dt, sl⟩ := o
  cases dt <;> exact hc.2
theorem newCompEnv {M : Model} {A : Around} {E : Value → Shared → Prop} {s : Shared} {scope : Scope} {cl : List (Str × Addr)} {env : Env} {Q : Env → Shared → Prop}
    (h : Q (newEnv scope s.heap.objs.size env.globals (cellsFrom (s.heap.objs.size + 1) scope.names cl) env.qual none .none (some env) builtinsNs) { s with heap := pushCells (s.heap.push { cls := .type "dict", data := .dict #[] }) scope.names }) :
    wpAny M A (newFunctionEnv scope env.globals cl [] env.qual none .none (some env)) Q E s := by
  simp only [newFunctionEnv, Option.isSome_some, if_true]
  refine wpAny_bind (wpAny_alloc ?_)
  refine wpAny_bind (wpAny_layCells _ (fun name kind cells => by cases hkc : kind == NameKind.cell <;> simp [hkc]) _ _ _ _ ?_)
  rw [show ({ s with heap := s.heap.push { cls := .type "dict", data := .dict #[] } } : Shared).heap.objs.size = s.heap.objs.size + 1 from Heap.size_push ..]
  exact wpAny_pure h

noncomputable def compOk (scope sc : Scope) (cx cxf : Cx) : Bool :=
  (scope.kind == .function) && scope.names.all (fun p => (p.2 != .free || (cx.any (fun q => q.1 == p.1) && (sc.names.lookup p.1 == some .cell || sc.names.lookup p.1 == some .free))) && (p.2 != .local || scope.names.lookup p.1 == some .local)) &&
  cxf.all (fun q => scope.names.lookup q.1 == some .free && !(ownNames scope).contains q.1)

structure EvTs (G : Gs) (n : Nat) (sc : Scope) (cx : Cx) (ifs : List Expr) (b : Bool) : Prop where
  go : ∀ A env s N, Rm A n → Vw G sc cx env s N → SpB G A s N (forIn ifs true fun c r => if r = true then do let ok ← isTrue c env (eval c env); pure (ForInStep.yield ok) else pure (ForInStep.yield r)) b
section
variable {G : Gs} {n : Nat} {A : Around} {sc : Scope} {on : List Str} {B : Bse} {cx : Cx} {env : Env} {s : Shared} {N : Lg}
theorem EvTs.nil : EvTs G n sc cx [] true := ⟨fun A env s N rm z => ⟨fun Q E k => by rw [List.forIn_nil]; exact wpAny_pure (k _ _ (Gr.refl z.toOk))⟩⟩
theorem EvTs.one {c : Expr} {b : Bool} (h : EvT G n sc cx c b) : EvTs G n sc cx [c] b := ⟨fun A env s N rm z => ⟨fun Q E k => by
  rw [List.forIn_cons]
  refine wpAny_bind ?_
  simp only [if_true]
  refine wpAny_bind ((h.go A env s N rm z).go _ _ fun s1 N1 g1 => wpAny_pure ?_)
  show wpAny _ _ (forIn [] b _) _ _ _
  rw [List.forIn_nil]; exact wpAny_pure (k _ _ g1)⟩⟩
end
end Mine
end
section
set_option tactic.hygienic false
open PySem PySem.W PyProof.Rows
namespace Mine
section
variable {G : Gs} {n : Nat} {A : Around} {sc : Scope} {on : List Str} {B : Bse} {cx : Cx} {env : Env} {s : Shared} {N : Lg}

noncomputable def swapS (sc scope : Scope) (x : Str) (p pos : Pos) : Bool :=
  sc.names.lookup x == some .local && p.line == pos.line && !(scope.names.any fun (n, k) => n == x && (k == .local || k == .cell))
theorem swaps_eq {scope : Scope} {elt : Expr} {gens : List Comprehension} {pos p : Pos} {x : Str} {line : Nat} (h : EnvOk sc env) :
    swapsWith (.ListComp elt gens scope pos) (some (.Name x p)) line env = pure (swapS sc scope x p pos) := by
  have hb : env.blockKind = .function := by unfold Env.blockKind; rw [h.scope, h.kind]; rfl
  have hk : env.kindOf x = sc.names.lookup x := by show env.scope.names.lookup x = _; rw [h.scope]
  show (pure (env.blockKind == .function && env.kindOf x == some .local && p.line == pos.line && !(scope.names.any fun (n, k) => n == x && (k == .local || k == .cell))) : Sem Bool) = _
  rw [hb, hk]; rfl

theorem Fs.frz {x : Str} {ds : List D} (F : Fs G sc on B ((x, .lst ds) :: cx) env s N) (hx : (cx.all fun p => p.1 != x) = true) : ∃ N', Fs G sc on B ((x, .imm (.list ds)) :: cx) env s N' := by
  have hx' : ∀ p ∈ cx, p.1 ≠ x := fun p hp => by simpa using List.all_eq_true.mp hx p hp
  obtain ⟨al, g1, g2⟩ := F.lists
  obtain ⟨vs, i1, ⟨o, i2, i2c, nn, i2d⟩, i3, i4, i5, i6⟩ := g1 x ds (.head _)
  have hal : ∀ y es, (y, Ent.lst es) ∈ cx → al y ≠ al x := fun y es hy e => hx' _ hy (g2 y x es ds (.tail _ hy) (.head _) e)
  have add : ∀ b, b ≠ al x → (∀ q, ¬ N b q) → ∀ q, ¬ N.add (al x) o b q := fun b hb hn q e => e.elim (hn q) fun e => hb e.1
  refine ⟨N.add (al x) o, { tp := fun a q e => .inl (F.tp a q e), hold := fun a q e => e.elim (F.hold a q) fun ⟨e1, e2⟩ => by rw [e1, e2]; exact i2, envOk := F.envOk, vars := fun y t hy => ?_, keep := F.keep, le := fun a q e => .inl (F.le a q e), new := fun a q e => e.elim (F.new a q) fun ⟨e1, _⟩ => .inr (e1 ▸ i4), gens := F.gens, os := F.os, loc := F.loc, L0 := F.L0, LN := add _ ?_ F.LN, cells := fun y hy => ?_, apart := F.apart, ext := fun p hp => ?_, lists := ⟨al, fun y es hy => ?_, fun y z es fs hy hz e => ?_⟩ }⟩
  · rcases List.mem_cons.mp hy with e | hy
    · cases e; exact ⟨_, i1, .list (Lg.add_self ..) i2c.1 i2d (i3.mono (Lg.add_le _ _ _))⟩
    · exact (F.vars y t (.tail _ hy)).keeps (fun _ _ e => e) (Lg.add_le _ _ _)
  · obtain ⟨m, o', es, ep, h1, h2, _⟩ := F.loc
    intro e; rw [e, i2] at h1; cases h1; rw [i2d] at h2; cases h2
  · obtain ⟨c, v, h1, ⟨o', h2, h3⟩, h4, h5⟩ := F.cells y hy
    refine ⟨c, v, h1, ⟨o', h2, h3⟩, h4, add _ (fun e => ?_) h5⟩
    rw [e, i2] at h2; cases h2; rw [i2d] at h3; cases h3
  · obtain ⟨h1, h2, h3⟩ := F.ext p hp
    exact ⟨h1, add _ (i6 p hp) h2, h3⟩
  · rcases List.mem_cons.mp hy with e | hy
    · cases e
    · obtain ⟨ws, j1, j2, j3, j4, j5, j6⟩ := g1 y es (.tail _ hy)
      exact ⟨ws, j1, j2, j3.mono (Lg.add_le _ _ _), j4, add _ (hal y es hy) j5, j6⟩
  · rcases List.mem_cons.mp hy with e' | hy
    · cases e'
    · rcases List.mem_cons.mp hz with e' | hz
      · cases e'
      · exact g2 y z es fs (.tail _ hy) (.tail _ hz) e
end
end Mine
end
section
set_option tactic.hygienic false
open PySem PySem.W PyProof.Rows
namespace Mine
section
variable {G : Gs} {n : Nat} {A : Around} {sc : Scope} {on : List Str} {B : Bse} {cx : Cx} {env : Env} {s : Shared} {N : Lg}

theorem odd_of {h : Heap} {b : Addr} {o : Obj} {vs : Array Value} (e : h.get? b = some o) (hd : o.data = .fields vs) (hc : o.cls ≠ .type "list") : Odd h b := ⟨o, e, fun _ _ => by rw [hd]; simp, fun _ => by rw [hd]; simp, hc⟩
theorem grw_same {s : Shared} {N : Lg} {h' : Heap} {I : Addr} {tk : Nat} (ok : Ok G s N) (hN : ∀ b ∈ [I], ∀ o, ¬ N b o) (hs : ∀ b, b ≠ I → h'.get? b = s.heap.get? b) : GrW [I] s N { s with heap := h', toks := tk } N :=
  ⟨fun a o ha e => (hs a (by simpa using ha)).trans e, fun _ _ e => e, fun _ _ e => .inl e, fun a o e => (hs a fun q => hN I (.head _) o (q ▸ e)).trans (ok.hold a o e), rfl, rfl⟩
theorem grw_ext {s : Shared} {N : Lg} {h' : Heap} {I : Addr} {tk : Nat} (ok : Ok G s N) (hN : ∀ b ∈ [I], ∀ o, ¬ N b o) (hs : Heap.ExtBut I s.heap h') : GrW [I] s N { s with heap := h', toks := tk } N :=
  ⟨fun a o ha e => hs a o (by simpa using ha) e, fun _ _ e => e, fun _ _ e => .inl e, fun a o e => hs a o (fun q => hN I (.head _) o (q ▸ e)) (ok.hold a o e), rfl, rfl⟩

theorem Itr.list {N : Lg} {I a : Addr} {o : Obj} {vs : List Value} {nn : Nat} {ds : List D} {tgt : Expr} (hh : A.handled = none) (h1 : N a o) (h2 : o.cls = .type "list") (h3 : o.data = .seq vs.toArray nn) (h4 : Rps N vs ds)
    (ht : ∀ it v, letOwnedTupleGo tgt it v = pure ()) :
    Itr G A (.ref I) tgt [I] N ds (fun i h => h.IsListIter I a i) where
  frame := fun i h h' ⟨o', e, r⟩ hb => ⟨o', (hb I (.head _)).trans e, r⟩
  odd := fun i h ⟨o', e, c, d⟩ b hb => by
    rcases List.mem_singleton.mp hb with rfl
    exact odd_of e d (by rw [c]; decide)
  next := fun i s N' d hd hst ok hle hN Q E k => by
    obtain ⟨v, hv, hr⟩ := h4.get hd
    refine wpAny_pyNext_list_item hst ⟨o, ok.hold _ _ (hle _ _ h1), h2, nn, h3⟩ (x := v) (by simpa using hv) fun h' hit' hs' => ?_
    show wpAny _ _ (letOwnedTupleGo tgt (.ref I) v) _ _ _
    rw [ht]
    exact wpAny_pure (k v { s with heap := h' } N' (grw_same ok hN hs'.2) hit' (hr.mono hle))
  stop := fun s N' hst ok hle hN Q E k => by
    refine wpAny_pyNext_list_end hh hst ⟨o, ok.hold _ _ (hle _ _ h1), h2, nn, h3⟩ (by simp [h4.length]) fun h' he' => ?_
    exact k { s with heap := h' } (grw_ext ok hN he')
  self := fun i s Q E _ hst hQ => wpAny_pyIter_listiter hst hQ
theorem EvI.list {e : Expr} {x : Str} {p : Pos} {ds : List D} (he : Ev G n sc cx e (.list ds)) : EvI G n sc cx e (.Name x p) ds := by
  refine ⟨fun A env s N rm z Q E k => ?_⟩
  refine (he.go A env s N rm z).go _ _ fun v s1 N1 g1 r1 => ?_
  cases r1 with
  | list h1 h2 h3 h4 =>
    have ok1 := (z.gr g1).toOk
    refine wpAny_pyIter_list ⟨_, ok1.hold _ _ h1, h2, _, h3⟩ ?_
    have hno : s1.heap.get? s1.heap.objs.size = none := Heap.get?_none_of_le (Nat.le_refl _)
    refine k _ [s1.heap.objs.size] _ N1 _ (g1.trans (Gr.keeps ok1 (fun a o e => Heap.get?_push_of_some _ e) rfl rfl)) (fun b hb => ?_) (fun b hb o e => ?_) (Itr.list rm.handled h1 h2 h3 h4 (fun _ _ => rfl)) ⟨_, Heap.get?_push_size _ rfl, rfl, rfl⟩
    · rcases List.mem_singleton.mp hb with rfl; exact none_of_keep g1.keep hno
    · rcases List.mem_singleton.mp hb with rfl
      have := ok1.hold _ _ e; rw [hno] at this; cases this

noncomputable def signs (x : Str) : List D := x.cps.toList.map fun c => .str ⟨#[c]⟩
theorem Itr.ascii {N : Lg} {I : Addr} {x : Str} {t : Tok} {tgt : Expr} (hh : A.handled = none) (ht : ∀ it v, letOwnedTupleGo tgt it v = pure ()) :
    Itr G A (.ref I) tgt [I] N (signs x) (fun i h => h.IsStrIter I "str_ascii_iterator" x t i) where
  frame := fun i h h' ⟨o', e, r⟩ hb => ⟨o', (hb I (.head _)).trans e, r⟩
  odd := fun i h ⟨o', e, c, d⟩ b hb => by
    rcases List.mem_singleton.mp hb with rfl
    exact odd_of e d (by rw [c]; decide)
  next := fun i s N' d hd hst ok hle hN Q E k => by
    obtain ⟨c, hc, rfl⟩ : ∃ c, x.cps[i]? = some c ∧ d = .str ⟨#[c]⟩ := by
      simp only [signs, List.getElem?_map] at hd
      obtain ⟨c, h1, h2⟩ := Option.map_eq_some_iff.mp hd
      exact ⟨c, by simpa using h1, h2.symm⟩
    refine wpAny_pyNext_ascii_item hst hc fun h' hit' hs' => ?_
    show wpAny _ _ (letOwnedTupleGo tgt (.ref I) _) _ _ _
    rw [ht]
    exact wpAny_pure (k _ _ N' (grw_same ok hN hs'.2) hit' (.str _ _))
  stop := fun s N' hst ok hle hN Q E k => by
    refine wpAny_pyNext_ascii_end hh hst (by simp [signs]) fun h' he' => ?_
    exact k { s with heap := h' } (grw_ext ok hN he')
  self := fun i s Q E _ hst hQ => wpAny_pyIter_striter_ascii hst hQ
theorem EvI.str {e : Expr} {y : Str} {p : Pos} {x : Str} (he : Ev G n sc cx e (.str x)) (ha : (x.cps.all fun c => decide (c < 128)) = true) : EvI G n sc cx e (.Name y p) (signs x) := by
  refine ⟨fun A env s N rm z Q E k => ?_⟩
  refine (he.go A env s N rm z).go _ _ fun v s1 N1 g1 r1 => ?_
  cases r1 with
  | str _ t =>
    have ok1 := (z.gr g1).toOk
    refine wpAny_pyIter_ascii ha ?_
    have hno : s1.heap.get? s1.heap.objs.size = none := Heap.get?_none_of_le (Nat.le_refl _)
    refine k _ [s1.heap.objs.size] _ N1 _ (g1.trans (Gr.keeps ok1 (fun a o e => Heap.get?_push_of_some _ e) rfl rfl)) (fun b hb => ?_) (fun b hb o e => ?_) (Itr.ascii (t := t) rm.handled (fun _ _ => rfl)) ⟨_, Heap.get?_push_size _ rfl, rfl, rfl⟩
    · rcases List.mem_singleton.mp hb with rfl; exact none_of_keep g1.keep hno
    · rcases List.mem_singleton.mp hb with rfl
      have := ok1.hold _ _ e; rw [hno] at this; cases this

noncomputable def rng (a : Int) (k : Nat) : List D := (List.range k).map fun (i : Nat) => .int (a + i)
theorem Itr.range {N : Lg} {I : Addr} {a : Int} {k : Nat} {tgt : Expr} (hh : A.handled = none) (ht : ∀ it v, letOwnedTupleGo tgt it v = pure ()) :
    Itr G A (.ref I) tgt [I] N (rng a k) (fun i h => i ≤ k ∧ IsRangeIter h I (a + i) (k - i) 1) where
  frame := fun i h h' ⟨hi, e⟩ hb => ⟨hi, (hb I (.head _)).trans e⟩
  odd := fun i h ⟨_, e⟩ b hb => by
    rcases List.mem_singleton.mp hb with rfl
    exact odd_of e rfl (show Value.type "range_iterator" ≠ Value.type "list" by decide)
  next := fun i s N' d hd hst ok hle hN Q E q => by
    obtain ⟨hi, rfl⟩ : i < k ∧ d = .int (a + i) := by
      simp only [rng, List.getElem?_map] at hd
      obtain ⟨c, h1, h2⟩ := Option.map_eq_some_iff.mp hd
      have hi : i < k := by
        have := (List.getElem?_eq_some_iff.mp h1).1
        simpa using this
      rw [List.getElem?_range hi] at h1
      cases h1; exact ⟨hi, h2.symm⟩
    refine wpAny_pyNext_range_item hst.2 (by lia) fun h' hit' hs' => ?_
    show wpAny _ _ (letOwnedTupleGo tgt (.ref I) _) _ _ _
    rw [ht]
    refine wpAny_pure (q _ _ N' (grw_same ok hN hs'.2) ⟨hi, ?_⟩ (.int _ _))
    have e1 : a + (i : Int) + 1 = a + ((i + 1 : Nat) : Int) := by lia
    have e2 : (k : Int) - i - 1 = (k : Int) - ((i + 1 : Nat) : Int) := by lia
    rw [e1, e2] at hit'; exact hit'
  stop := fun s N' hst ok hle hN Q E q => by
    have hl : (rng a k).length = k := by simp [rng]
    rw [hl] at hst
    refine wpAny_pyNext_range_end hh hst.2 (by lia) fun h' he' => ?_
    exact q { s with heap := h' } (grw_ext ok hN he')
  self := fun i s Q E _ hst hQ => wpAny_pyIter_rangeiter hst.2 hQ
theorem rngSize {a b : Int} {k : Nat} (h : b - a = k ∨ (b ≤ a ∧ k = 0)) : Builtin.Range.rangeSize a b 1 = k := by
  rw [rangeSize_one]
  split <;> lia
theorem rangeIt {A : Around} {s : Shared} {N : Lg} {r : Addr} {a b : Int} {t u v : Tok} {k : Nat} {y : Str} {p : Pos} (hh : A.handled = none) (ok : Ok G s N) (hr : IsRange s.heap r a b 1 t u v) (hs : Builtin.Range.small a b 1 = true) (hk : b - a = k ∨ (b ≤ a ∧ k = 0)) {Q : Value → Shared → Prop} {E : Value → Shared → Prop}
    (h : ∀ it wr s' St, Gr s N s' N → (∀ b ∈ wr, s.heap.get? b = none) → (∀ b ∈ wr, ∀ o, ¬ N b o) → Itr G A it (.Name y p) wr N (rng a k) St → St 0 s'.heap → Q it s') : wpAny G.M A (pyIter (.ref r)) Q E s := by
  refine wpAny_pyIter_range hr hs ?_
  have hno : s.heap.get? s.heap.objs.size = none := Heap.get?_none_of_le (Nat.le_refl _)
  refine h _ [s.heap.objs.size] _ _ (Gr.keeps ok (fun a o e => Heap.get?_push_of_some _ e) rfl rfl) (fun b hb => ?_) (fun b hb o e => ?_) (Itr.range (k := k) hh (fun _ _ => rfl)) ⟨Nat.zero_le _, ?_⟩
  · rcases List.mem_singleton.mp hb with rfl; exact hno
  · rcases List.mem_singleton.mp hb with rfl
    have := ok.hold _ _ e; rw [hno] at this; cases this
  · show Heap.get? (Heap.push _ _) _ = _
    rw [rngSize hk]
    have e1 : a + ((0 : Nat) : Int) = a := by lia
    have e2 : (k : Int) - ((0 : Nat) : Int) = k := by lia
    rw [e1, e2]
    exact Heap.get?_push_size _ rfl
theorem EvI.range1 {x : Str} {e : Expr} {p pos p2 : Pos} {y : Str} {b : Int} {k : Nat} (hn : Nm G sc x (.type "range")) (he : Ev G n sc cx e (.int b)) (hk : b = k ∨ (b ≤ 0 ∧ k = 0)) (hs : b < 2 ^ 62) (hs' : -(2 ^ 62) ≤ b) (hst : ∀ env, starEach [e] env = (false, eval e env) :: starEach [] env := by intro _; rfl) :
    EvI G n sc cx (.Call (.Name x p) [e] [] pos) (.Name y p2) (rng 0 k) := by
  refine ⟨fun A env s N rm z Q E q => ?_⟩
  with_reducible refine wpAny_Call_NameR (hn.eval z (PyProof.Rows.callWith_type1 ?_ (hst env) (by with_unfolding_all rfl)))
  refine (EvL.cons he .nil hst).go A env s N pos rm z _ _ fun vs s1 N1 g1 r1 => ?_
  cases r1 with
  | cons r1 r2 => cases r2; cases r1 with
    | int _ t =>
      have ok1 := (z.gr g1).toOk
      refine call_range_1 ?_
      have gp : Gr s1 N1 { s1 with heap := s1.heap.push { cls := .type "range", data := .fields #[.int 0 s1.toks, .int b t, .int 1 (s1.toks + 1)] }, toks := s1.toks + 1 + 1 } N1 := Gr.keeps ok1 (fun a o e => Heap.get?_push_of_some _ e) rfl rfl
      refine rangeIt rm.handled (gp.ok ok1) (IsRange.new _ _ _ _ _ _ _) (small_one (by lia) (by lia) hs' hs) (k := k) (y := y) (p := p2) (by lia) fun it wr s' St g hf hN IT hst0 => ?_
      exact q it wr s' N1 St ((g1.trans gp).trans g) (fun b hb => none_of_keep (g1.trans gp).keep (hf b hb)) hN IT hst0
theorem EvI.range2 {x : Str} {e e' : Expr} {p pos p2 : Pos} {y : Str} {a b : Int} {k : Nat} (hn : Nm G sc x (.type "range")) (he : Ev G n sc cx e (.int a)) (he' : Ev G n sc cx e' (.int b)) (hk : b - a = k ∨ (b ≤ a ∧ k = 0)) (h1 : a < 2 ^ 62) (h2 : -(2 ^ 62) ≤ a) (hs : b < 2 ^ 62) (hs' : -(2 ^ 62) ≤ b)
    (hst : ∀ env, starEach [e, e'] env = (false, eval e env) :: starEach [e'] env := by intro _; rfl) (hst' : ∀ env, starEach [e'] env = (false, eval e' env) :: starEach [] env := by intro _; rfl) :
    EvI G n sc cx (.Call (.Name x p) [e, e'] [] pos) (.Name y p2) (rng a k) := by
  refine ⟨fun A env s N rm z Q E q => ?_⟩
  with_reducible refine wpAny_Call_NameR (hn.eval z (PyProof.Rows.callWith_type1 ?_ (hst env) (by rw [hst']; with_unfolding_all rfl)))
  refine (EvL.cons he (EvL.cons he' .nil hst') hst).go A env s N pos rm z _ _ fun vs s1 N1 g1 r1 => ?_
  cases r1 with
  | cons r1 r2 => cases r2 with
    | cons r2 r3 => cases r3; cases r1 with
      | int _ t => cases r2 with
        | int _ u =>
          have ok1 := (z.gr g1).toOk
          refine call_range_2 ?_
          have gp : Gr s1 N1 { s1 with heap := s1.heap.push { cls := .type "range", data := .fields #[.int a t, .int b u, .int 1 s1.toks] }, toks := s1.toks + 1 } N1 := Gr.keeps ok1 (fun a o e => Heap.get?_push_of_some _ e) rfl rfl
          refine rangeIt rm.handled (gp.ok ok1) (IsRange.new _ _ _ _ _ _ _) (small_one h2 h1 hs' hs) (y := y) (p := p2) hk fun it wr s' St g hf hN IT hst0 => ?_
          exact q it wr s' N1 St ((g1.trans gp).trans g) (fun b hb => none_of_keep (g1.trans gp).keep (hf b hb)) hN IT hst0
end
end Mine
end
section
set_option tactic.hygienic false
open PySem PySem.W PyProof.Rows
namespace Mine
section
variable {G : Gs} {n : Nat} {A : Around} {sc : Scope} {on : List Str} {B : Bse} {cx : Cx} {env : Env} {s : Shared} {N : Lg}

theorem Fn.le {m : Nat} {f : Value} {args : List D} {d : D} (h : Fn G m f args d) (k : m ≤ n) : Fn G n f args d := ⟨fun A s N vs rm ok hr => h.go A s N vs (rm.le k) ok hr⟩
structure FnM (G : Gs) (n : Nat) (f : Value) (args : List D) (ds : List D) : Prop where
  go : ∀ A s N vs, Rm A n → Ok G s N → Rps N vs args → SpM G A s N (call f vs) ds

theorem Ev.callB {f : Str} {id : String} {p pos : Pos} {e : Expr} {es : List Expr} {ds : List D} {d : D} (hn : Nm G sc f (.builtin id)) (ha : EvL G n sc cx (e :: es) ds) (hc : Fn G n (.builtin id) ds d)
    (he : ∀ env, starEach (e :: es) env = (false, eval e env) :: starEach es env := by intro _; rfl) (hp : ∀ env pos, (backTo pos (starEach es env)).any (·.1) = false := by intro _ _; rfl) : Ev G n sc cx (.Call (.Name f p) (e :: es) [] pos) d := by
  refine ⟨fun A env s N rm z => ⟨fun Q E k => ?_⟩⟩
  with_reducible refine wpAny_Call_NameR (hn.eval z (PyProof.Rows.callWith_builtin1 (ha.go A env s N pos rm z _ _ fun vs s1 N1 g1 r1 => ?_) (he env) (hp env pos)))
  exact (hc.go A s1 N1 vs rm (z.gr g1).toOk r1).go _ _ fun v s2 N2 g2 r2 => k _ _ _ (g1.trans g2) r2
theorem EvM.callB {f : Str} {id : String} {p pos : Pos} {e : Expr} {es : List Expr} {ds ds' : List D} (hn : Nm G sc f (.builtin id)) (ha : EvL G n sc cx (e :: es) ds) (hc : FnM G n (.builtin id) ds ds')
    (he : ∀ env, starEach (e :: es) env = (false, eval e env) :: starEach es env := by intro _; rfl) (hp : ∀ env pos, (backTo pos (starEach es env)).any (·.1) = false := by intro _ _; rfl) : EvM G n sc cx (.Call (.Name f p) (e :: es) [] pos) ds' := by
  refine ⟨fun A env s N rm z => ⟨fun Q E k => ?_⟩⟩
  with_reducible refine wpAny_Call_NameR (hn.eval z (PyProof.Rows.callWith_builtin1 (ha.go A env s N pos rm z _ _ fun vs s1 N1 g1 r1 => ?_) (he env) (hp env pos)))
  exact (hc.go A s1 N1 vs rm (z.gr g1).toOk r1).go _ _ fun a vs s2 N2 g2 h1 h2 h3 h4 => k _ _ _ _ (g1.trans g2) (none_of_keep g1.keep h1) h2 h3 h4
theorem Ev.callT {f : Str} {T : String} {p pos : Pos} {e : Expr} {es : List Expr} {ds : List D} {d : D} (hn : Nm G sc f (.type T)) (ha : EvL G n sc cx (e :: es) ds) (hc : Fn G n (.type T) ds d)
    (he : ∀ env, starEach (e :: es) env = (false, eval e env) :: starEach es env := by intro _; rfl) (hp : ∀ env pos, (backTo pos (starEach es env)).any (·.1) = false := by intro _ _; rfl) : Ev G n sc cx (.Call (.Name f p) (e :: es) [] pos) d := by
  refine ⟨fun A env s N rm z => ⟨fun Q E k => ?_⟩⟩
  with_reducible refine wpAny_Call_NameR (hn.eval z (PyProof.Rows.callWith_type1 (ha.go A env s N pos rm z _ _ fun vs s1 N1 g1 r1 => ?_) (he env) (hp env pos)))
  exact (hc.go A s1 N1 vs rm (z.gr g1).toOk r1).go _ _ fun v s2 N2 g2 r2 => k _ _ _ (g1.trans g2) r2

theorem fn_lenS {x : Str} (h : x.length ≤ sizeLine) : Fn G n (.builtin "len") [.str x] (.int x.length) := ⟨fun A s N vs rm ok hr => by
  refine hr.e1 ?_; intro v h1; refine h1.eStr ?_; intro t
  have hz : sizeLine = 16777216 := rfl
  exact sp_tok ok fun Q E k => by with_reducible exact PyProof.Rows.len_str (by lia) (k _ _ (.int _ _))⟩
theorem fn_lenL {ds : List D} (h : ds.length ≤ sizeLine) : Fn G n (.builtin "len") [.list ds] (.int ds.length) := ⟨fun A s N vs rm ok hr => by
  refine hr.e1 ?_; intro v h1; refine h1.eList ?_; intro a o ws e a1 a2 a3 a4
  have hz : sizeLine = 16777216 := rfl
  have hl := a4.length
  refine sp_tok ok fun Q E k => ?_
  have hL : s.heap.IsList _ _ := ⟨_, ok.hold _ _ a1, a2, _, a3⟩
  with_reducible refine PyProof.Rows.len_list hL (by simp only [List.size_toArray]; lia) ?_
  refine k _ _ ?_
  simp only [List.size_toArray, hl]; exact .int _ _⟩
theorem fn_ord {c : Nat} : Fn G n (.builtin "ord") [.str ⟨#[c]⟩] (.int c) := ⟨fun A s N vs rm ok hr => by
  refine hr.e1 ?_; intro v h1; refine h1.eStr ?_; intro t
  exact sp_tok ok fun Q E k => by with_reducible exact PySem.P.ord_of_char (k _ _ (.int _ _))⟩

structure It2 (G : Gs) (n : Nat) (d1 d2 d : D) : Prop where
  go : ∀ A s N a b, Rm A n → Ok G s N → Rp N a d1 → Rp N b d2 → ∃ T id, typeLookup (.type T) "__getitem__" = pure (some (.builtin id)) ∧ (∀ s' : Shared, (∀ a o, N a o → s'.heap.get? a = some o) → s'.TypeIs a T) ∧ Sp G A s N (getItem a b) d
theorem Ev.item {v i : Expr} {pos : Pos} {d1 d2 d : D} (hv : Ev G n sc cx v d1) (hi : Ev G n sc cx i d2) (ho : It2 G n d1 d2 d) (hs : ∀ o j, subscripted i false o j = operate [o, j] (getItem o j) := by intro _ _; rfl) : Ev G n sc cx (.Subscript v i pos) d := by
  refine ⟨fun A env s N rm z => ⟨fun Q E k => ?_⟩⟩
  with_reducible refine Subscript_ ((hv.go A env s N rm z).go _ _ fun v s1 N1 g1 r1 => (hi.go A env s1 N1 rm (z.gr g1)).go _ _ fun v2 s2 N2 g2 r2 => ?_)
  have ok2 := ((z.gr g1).gr g2).toOk
  obtain ⟨T, id, h1, h2, h3⟩ := ho.go A s2 N2 _ _ rm ok2 (r1.mono g2.le) r2
  with_reducible exact tail_any (h2 s2 ok2.hold) h1 (h3.go _ _ fun v3 s3 N3 g3 r3 => k _ _ _ ((g1.trans g2).trans g3) r3) (hs _ _)
theorem it_list {ds : List D} {k : Int} {d : D} (h0 : 0 ≤ k) (hk : ds[k.toNat]? = some d) (hf : k < 2 ^ 63) : It2 G n (.list ds) (.int k) d := ⟨fun A s N a b rm ok h1 h2 => by
  cases h1 with | list a1 a2 a3 a4 => cases h2 with | int _ t =>
    obtain ⟨v, hv, hr⟩ := a4.get hk
    refine ⟨"list", _, slot_list_getitem.lookup, fun s' h => ⟨_, h _ _ a1, a2⟩, ⟨fun Q E q => ?_⟩⟩
    have hL : s.heap.IsList _ _ := ⟨_, ok.hold _ _ a1, a2, _, a3⟩
    have hv' := hv
    rw [← List.getElem?_toArray] at hv'
    with_reducible exact wpAny_getItem_list hL h0 hf hv' (q _ _ _ (Gr.refl ok) hr)⟩
theorem it_str {x : Str} {i : Int} {c : Nat} (hr : fitsSsize i = true) (hc : Txt.charAt x i = some c) : It2 G n (.str x) (.int i) (.str ⟨#[c]⟩) := ⟨fun A s N a b rm ok h1 h2 => by
  cases h1 with | str _ t => cases h2 with | int _ u =>
    refine ⟨"str", _, slot_str_getitem.lookup, fun s' _ => typeIs_str _ _ _, sp_tok ok fun Q E k => ?_⟩
    have e : Txt.item x i = ⟨#[c]⟩ := by unfold Txt.item; rw [hc]; rfl
    have hs : (Txt.charAt x i).isSome = true := by rw [hc]; rfl
    with_reducible refine SB.getItem hr hs ?_
    rw [e]; exact k _ _ (.str _ _)⟩
end
end Mine
end
section
set_option tactic.hygienic false
open PySem PySem.W PyProof.Rows
namespace Mine
section
variable {G : Gs} {n : Nat} {A : Around} {sc : Scope} {on : List Str} {B : Bse} {cx : Cx} {env : Env} {s : Shared} {N : Lg}

structure Mt (name : Str) (id : String) : Prop where
  slot : Slot "str" name id
  type : typeOf (Value.builtin id) = pure (Value.type "method_descriptor")
theorem mt_join : Mt "join" "str.join" := ⟨F.slot_str_join, F.type_str_join⟩
theorem mt_rstrip : Mt "rstrip" "str.rstrip" := ⟨F.slot_str_rstrip, F.type_str_rstrip⟩
theorem mt_count : Mt "count" "str.count" := ⟨F.slot_str_count, F.type_str_count⟩
theorem mt_index : Mt "index" "str.index" := ⟨F.slot_str_index, F.type_str_index⟩
theorem Ev.meth0 {o : Expr} {name : Str} {id : String} {apos pos : Pos} {x : Str} {d : D} (hm : Mt name id) (ho : Ev G n sc cx o (.str x)) (hc : Fn G n (.builtin id) [.str x] d)
    (hb : ∀ env, attributeBase o name env (eval o env) = eval o env := by intro _; rfl) (hl : (apos.endLine == pos.line) = true := by rfl) : Ev G n sc cx (.Call (.Attribute o name apos) [] [] pos) d := by
  refine ⟨fun A env s N rm z => ⟨fun Q E k => ?_⟩⟩
  with_reducible refine wpAny_Call_method_lateS (hb env) (by with_unfolding_all rfl) hl ((ho.go A env s N rm z).go _ _ fun v s1 N1 g1 r1 => ?_)
  refine r1.eStr ?_; intro t
  refine ⟨"str", id, F.plainAttrs_str, hm.slot, hm.type, typeIs_str _ _ _, fun a e => (nomatch e), ?_⟩
  with_reducible refine PyProof.Rows.callWith_method0 ?_
  exact (hc.go A s1 N1 _ rm (z.gr g1).toOk (.one (.str _ _))).go _ _ fun v s2 N2 g2 r2 => k _ _ _ (g1.trans g2) r2
theorem Ev.meth1 {o e : Expr} {es : List Expr} {name : Str} {id : String} {apos pos : Pos} {x : Str} {ds : List D} {d : D} (hm : Mt name id) (ho : Ev G n sc cx o (.str x)) (ha : EvL G n sc cx (e :: es) ds) (hc : Fn G n (.builtin id) (.str x :: ds) d)
    (hb : ∀ env, attributeBase o name env (eval o env) = eval o env := by intro _; rfl) (hl : (apos.endLine == pos.line) = true := by rfl)
    (he : ∀ env, starEach (e :: es) env = (false, eval e env) :: starEach es env := by intro _; rfl) (hp : ∀ env pos, (backTo pos (starEach es env)).any (·.1) = false := by intro _ _; rfl)
    (ht : ∀ env, ((((backTo pos (starEach (e :: es) env)).all fun x => !x.fst) && (backToKw pos (keywordEach [] env)).all fun x => x.fst.isSome) && decide (((e :: es).length + ([] : List Keyword).length + if ([] : List Keyword).isEmpty = true then 0 else 1) < 30)) = true := by intro _; rfl) : Ev G n sc cx (.Call (.Attribute o name apos) (e :: es) [] pos) d := by
  refine ⟨fun A env s N rm z => ⟨fun Q E k => ?_⟩⟩
  with_reducible refine wpAny_Call_method_lateS (hb env) (ht env) hl ((ho.go A env s N rm z).go _ _ fun v s1 N1 g1 r1 => ?_)
  refine r1.eStr ?_; intro t
  refine ⟨"str", id, F.plainAttrs_str, hm.slot, hm.type, typeIs_str _ _ _, fun a e => (nomatch e), ?_⟩
  with_reducible refine PyProof.Rows.callWith_method1 (ha.go A env s1 N1 pos rm (z.gr g1) _ _ fun vs s2 N2 g2 r2 => ?_) (he env) (hp env pos)
  exact (hc.go A s2 N2 _ rm ((z.gr g1).gr g2).toOk (.cons (.str _ _) r2)).go _ _ fun v s3 N3 g3 r3 => k _ _ _ ((g1.trans g2).trans g3) r3
theorem fn_rstrip {x : Str} (h : x.length ≤ sizeLine) : Fn G n (.builtin "str.rstrip") [.str x] (.str (Txt.rstrip x)) := ⟨fun A s N vs rm ok hr => by
  refine hr.e1 ?_; intro v h1; refine h1.eStr ?_; intro t
  exact sp_tok ok fun Q E k => by with_reducible exact SC.rstrip (fun _ _ => k _ _ (.str _ _)) h⟩
theorem fn_count {x y : Str} : Fn G n (.builtin "str.count") [.str x, .str y] (.int (Txt.count x y)) := ⟨fun A s N vs rm ok hr => by
  refine hr.e2 ?_; intro v v' h1 h2; refine h1.eStr ?_; intro t; refine h2.eStr ?_; intro u
  exact sp_tok ok fun Q E k => by with_reducible exact SC.count (k _ _ (.int _ _))⟩
theorem strs_of {N : Lg} {vs : List Value} {xs : List Str} (h : Rps N vs (xs.map .str)) : ∃ l : List (Str × Tok), vs = strValues l ∧ l.map (·.1) = xs := by
  induction xs generalizing vs with
  | nil => exact ⟨[], List.eq_nil_of_length_eq_zero h.length, rfl⟩
  | cons x xs ih =>
    obtain ⟨v, us, rfl, a, b⟩ := Rps.inv h
    obtain ⟨l, rfl, rfl⟩ := ih b
    refine a.eStr ?_; intro t
    exact ⟨(x, t) :: l, rfl, rfl⟩
theorem fn_join {x : Str} {xs : List Str} (h : JoinOk x xs = true) : Fn G n (.builtin "str.join") [.str x, .list (xs.map .str)] (.str (Txt.join x xs)) := ⟨fun A s N vs rm ok hr => by
  refine hr.e2 ?_; intro v v' h1 h2; refine h1.eStr ?_; intro t; refine h2.eList ?_; intro a o ws e a1 a2 a3 a4
  obtain ⟨l, hl, hx⟩ := strs_of a4
  subst hl
  have hL : s.heap.IsList _ _ := ⟨_, ok.hold _ _ a1, a2, _, a3⟩
  exact sp_tok ok fun Q E k => by with_reducible exact SC.join hL hx h (fun _ _ => k _ _ (.str _ _))⟩
theorem op_mulS {x : Str} {i : Int} (h : MulOk x i) : Op2 G n .Mult (.str x) (.int i) (.str (Txt.mul x i)) := ⟨fun A s N a b rm ok h1 h2 => by
  cases h1; cases h2; exact sp_tok ok fun Q E k => by with_reducible exact SB.mul h (fun _ _ => k _ _ (.str _ _))⟩

theorem seqIdx {k : Int} {m : Nat} (h0 : 0 ≤ k) (h1 : k.toNat < m) : seqIndex? k m = some k.toNat := by
  unfold seqIndex?
  have e1 : ¬ k < 0 := by lia
  have e2 : k < (m : Int) := by lia
  simp [e1, h0, e2]
theorem EvM.disp {es : List Expr} {pos : Pos} {ds : List D} (he : EvL G n sc cx es ds) (hsz : ds.length ≤ sizeLine) : EvM G n sc cx (.List es pos) ds := by
  refine ⟨fun A env s N rm z => ⟨fun Q E k => ?_⟩⟩
  with_reducible refine wpAny_List (he.go A env s N pos rm z _ _ fun vs s1 N1 g1 r1 => ?_)
  have ok1 := (z.gr g1).toOk
  have hno : s1.heap.get? s1.heap.objs.size = Option.none := Heap.get?_none_of_le (Nat.le_refl _)
  refine ⟨by rw [r1.length]; exact hsz, k _ vs _ N1 (g1.trans (Gr.keeps ok1 (fun a o e => Heap.get?_push_of_some _ e) rfl rfl)) (Mine.none_of_keep g1.keep hno) (fun o e => ?_) ⟨_, Heap.get?_push_size _ rfl, ⟨rfl, rfl⟩, 0, rfl⟩ r1⟩
  have := ok1.hold _ _ e; rw [hno] at this; cases this
theorem Ev.tuple {es : List Expr} {kk : Nat} {pos : Pos} {ds : List D} (he : EvL G n sc cx es ds) (hsz : ds.length ≤ sizeLine) : Ev G n sc cx (.Tuple es kk pos) (.tuple ds) := by
  refine ⟨fun A env s N rm z => ⟨fun Q E k => ?_⟩⟩
  with_reducible refine wpAny_Tuple (he.go A env s N pos rm z _ _ fun vs s1 N1 g1 r1 => ?_)
  have ok1 := (z.gr g1).toOk
  have hno : s1.heap.get? s1.heap.objs.size = Option.none := Heap.get?_none_of_le (Nat.le_refl _)
  refine ⟨by rw [r1.length]; exact hsz, ?_⟩
  have gp : Gr s1 N1 { s1 with heap := s1.heap.push { cls := .type "tuple", data := .seq vs.toArray } } N1 := Gr.keeps ok1 (fun a o e => Heap.get?_push_of_some _ e) rfl rfl
  exact k _ _ _ (g1.trans (gp.freeze hno (Heap.get?_push_size _ rfl))) (.tuple (Lg.add_self ..) rfl rfl (r1.mono (Lg.add_le _ _ _)))
theorem it_tuple {ds : List D} {k : Int} {d : D} (h0 : 0 ≤ k) (hk : ds[k.toNat]? = some d) (hf : k < 2 ^ 63) : It2 G n (.tuple ds) (.int k) d := ⟨fun A s N a b rm ok h1 h2 => by
  cases h1 with | tuple a1 a2 a3 a4 => cases h2 with | int _ t =>
    obtain ⟨v, hv, hr⟩ := a4.get hk
    refine ⟨"tuple", _, slot_tuple_getitem.lookup, fun s' h => ⟨_, h _ _ a1, a2⟩, ⟨fun Q E q => ?_⟩⟩
    have hT : IsTup s.heap _ _ := ⟨_, ok.hold _ _ a1, a2, _, a3⟩
    have hlt : k.toNat < ds.length := by
      have := (List.getElem?_eq_some_iff.mp hk).1; exact this
    have hl := a4.length
    have hv' := hv
    rw [← List.getElem?_toArray] at hv'
    refine getItem_tuple hT (by lia) hf (j := k.toNat) ?_ hv' (q _ _ _ (Gr.refl ok) hr)
    exact seqIdx h0 (by simp only [List.size_toArray]; lia)⟩
end
end Mine
end
section
set_option tactic.hygienic false
open PySem PySem.W PyProof.Rows
namespace Mine
section
variable {G : Gs} {n : Nat} {A : Around} {sc : Scope} {on : List Str} {B : Bse} {cx : Cx} {env : Env} {s : Shared} {N : Lg}

theorem EvT.eq {e : Expr} {b b' : Bool} (h : EvT G n sc cx e b) (q : b = b') : EvT G n sc cx e b' := q ▸ h
theorem Ev.eq {e : Expr} {d d' : D} (h : Ev G n sc cx e d) (q : d = d') : Ev G n sc cx e d' := q ▸ h
theorem EvM.eq {e : Expr} {d d' : List D} (h : EvM G n sc cx e d) (q : d = d') : EvM G n sc cx e d' := q ▸ h
structure EvP (G : Gs) (n : Nat) (sc : Scope) (cx : Cx) (e : Option Expr) (i : Option Int) : Prop where
  go : ∀ A env s N, Rm A n → Vw G sc cx env s N → ∀ (Q : Value → Shared → Prop) (E : Value → Shared → Prop), (∀ p s' N', Gr s N s' N' → p.map (·.1) = i → Q (partValue p) s') → wpAny G.M A (evalPart e env) Q E s
theorem EvP.no : EvP G n sc cx none none := ⟨fun A env s N rm z Q E k => by
  have q : Q .none s := k none s N (Gr.refl z.toOk) rfl
  with_reducible exact wpAny_evalPart_none q⟩
theorem EvP.int {e : Expr} {i : Int} (h : Ev G n sc cx e (.int i)) : EvP G n sc cx (some e) (some i) := ⟨fun A env s N rm z Q E k => by
  with_reducible refine wpAny_evalPart_some ((h.go A env s N rm z).go _ _ fun v s1 N1 g1 r1 => ?_)
  refine r1.eInt ?_; intro t; exact k (some (i, t)) s1 N1 g1 rfl⟩
theorem Ev.sliceS {v : Expr} {lo hi : Option Expr} {p pos : Pos} {x : Str} {i j : Option Int} (hv : Ev G n sc cx v (.str x)) (hlo : EvP G n sc cx lo i) (hhi : EvP G n sc cx hi j) (hx : x.length ≤ sizeLine) :
    Ev G n sc cx (.Subscript v (.Slice lo hi Option.none p) pos) (.str (Txt.slice x i j)) := by
  refine ⟨fun A env s N rm z => ⟨fun Q E k => ?_⟩⟩
  with_reducible refine Subscript_ ((hv.go A env s N rm z).go _ _ fun o s1 N1 g1 r1 => ?_)
  refine r1.eStr ?_; intro t
  with_reducible refine wpAny_Slice (hlo.go A env s1 N1 rm (z.gr g1) _ _ fun pl s2 N2 g2 e2 => hhi.go A env s2 N2 rm ((z.gr g1).gr g2) _ _ fun pu s3 N3 g3 e3 => wpAny_evalPart_none ?_)
  have ok3 := (((z.gr g1).gr g2).gr g3).toOk
  have gp : Gr s3 N3 { s3 with heap := s3.heap.push { cls := .type "slice", data := .fields #[partValue pl, partValue pu, .none] } } N3 := Gr.keeps ok3 (fun a o e => Heap.get?_push_of_some _ e) rfl rfl
  have hsl : ({ s3 with heap := s3.heap.push { cls := .type "slice", data := .fields #[partValue pl, partValue pu, .none] } } : Shared).heap.IsSlice s3.heap.objs.size pl pu Option.none := ⟨_, Heap.get?_push_size _ rfl, rfl, rfl⟩
  with_reducible refine tail_any (typeIs_str _ _ _) slot_str_getitem.lookup ?_ (ops := [.ref s3.heap.objs.size, .str x t]) ?_
  · with_reducible refine wpAny_getItem_str_slice (l := pl) (u := pu) (st := Option.none) hsl (by decide) ?_
    have hmade : (sliceMade x t pl pu Option.none) = if ((1 : Int) == 1 && (Builtin.Str.strSliceIndices i j 1 x.length).length == x.length) = true then Made.val (.str x t) else Made.str ⟨((Builtin.Str.strSliceIndices i j 1 x.length).filterMap (x.cps[·]?)).toArray⟩ := by
      subst e2 e3; rfl
    rw [hmade]
    refine post_val_or_str ⟨Nat.le_trans (Txt.slice_le x i j) hx, fun t' kk => ?_⟩
    exact k _ _ N3 (((g1.trans g2).trans g3).trans (gp.trans (Gr.toks (gp.ok ok3) kk))) (.str _ _)
  · with_unfolding_all rfl

theorem cm_isNone {d : D} (h : d ≠ .none) : Cm2 G n .Is d .none false := ⟨fun A s N a b rm ok h1 h2 => ⟨fun Q E k => by
  cases h2
  have hp : PySem.plainIs a .none = true := by cases h1 <;> rfl
  have hb : (a == Value.none) = false := by cases h1 <;> first | rfl | exact absurd rfl h
  have q := k _ _ (Gr.refl ok)
  with_reducible refine wpAny_is_plain hp ?_
  rw [hb]; exact q⟩⟩
theorem cm_isNone' : Cm2 G n .Is .none .none true := ⟨fun A s N a b rm ok h1 h2 => ⟨fun Q E k => by
  cases h2; cases h1
  have q := k _ _ (Gr.refl ok)
  with_reducible refine wpAny_is_plain (by decide) ?_
  exact q⟩⟩
theorem cm_isNotNone {d : D} (h : d ≠ .none) : Cm2 G n .IsNot d .none true := ⟨fun A s N a b rm ok h1 h2 => ⟨fun Q E k => by
  cases h2
  have hp : PySem.plainIs a .none = true := by cases h1 <;> rfl
  have hb : (a == Value.none) = false := by cases h1 <;> first | rfl | exact absurd rfl h
  have q := k _ _ (Gr.refl ok)
  with_reducible refine wpAny_isNot_plain hp ?_
  rw [hb]; exact q⟩⟩
theorem cm_isNotNone' : Cm2 G n .IsNot .none .none false := ⟨fun A s N a b rm ok h1 h2 => ⟨fun Q E k => by
  cases h2; cases h1
  have q := k _ _ (Gr.refl ok)
  with_reducible refine wpAny_isNot_plain (by decide) ?_
  exact q⟩⟩
theorem cm_isTrue {b : Bool} : Cm2 G n .Is (.bool b) (.bool true) b := ⟨fun A s N x y rm ok h1 h2 => ⟨fun Q E k => by
  cases h2; cases h1
  have q := k _ _ (Gr.refl ok)
  cases b
  · with_reducible refine wpAny_is_plain (by decide) ?_
    exact q
  · with_reducible refine wpAny_is_plain (by decide) ?_
    exact q⟩⟩
theorem cm_inS {x y : Str} : Cm2 G n .In (.str y) (.str x) (Txt.contains x y) := ⟨fun A s N a b rm ok h1 h2 => ⟨fun Q E k => by
  cases h1; cases h2; with_reducible exact SB.contains (k _ _ (Gr.refl ok))⟩⟩
end
end Mine
end
section
set_option tactic.hygienic false
open PySem PySem.W PyProof.Rows
namespace Mine
mutual
noncomputable def D.dat : D → Dat
  | .none => .none
  | .bool b => .bool b
  | .int i => .int i
  | .str x => .str x
  | .list ds => .list (D.dats ds)
  | .tuple ds => .tuple (D.dats ds)
  | .ref _ => .bytes #[]
  | .obj _ _ _ => .bytes #[]
noncomputable def D.dats : List D → List Dat
  | [] => []
  | d :: ds => D.dat d :: D.dats ds
end
theorem Rp.reads {N : Lg} {h : Heap} (hh : ∀ a o, N a o → h.get? a = some o) {v : Value} {d : D} (n : Nat) (r : Rp N v d) : kqdOk n d.dat = true → ∃ as, Reads h v (kqdP d.dat) as := by
  refine Rp.rec (motive_1 := fun v d _ => ∀ n, kqdOk n d.dat = true → ∃ as, Reads h v (kqdP d.dat) as) (motive_2 := fun vs ds _ => ∀ n, (∀ d ∈ D.dats ds, kqdOk n d = true) → ∃ as, ReadsAll h vs (kqdPs (D.dats ds)) as)
    (fun _ _ => ⟨_, Reads.none⟩) (fun b _ _ => ⟨_, Reads.bool b⟩) (fun i t _ _ => ⟨_, Reads.int i t⟩) (fun x t _ _ => ⟨_, Reads.str x t⟩) (fun hm hc hd r ih n hk => ?_) (fun hm hc hd r ih n hk => ?_) (fun a n hk => ?_) (fun _ _ _ _ _ _ n hk => ?_) (fun _ _ => ⟨_, ReadsAll.nil⟩) (fun hd r ih1 ih2 n hk => ?_) r n
  · cases n with
    | zero => simp [kqdOk, D.dat] at hk
    | succ n =>
      obtain ⟨as, q⟩ := ih n (by simpa [kqdOk, D.dat] using hk)
      rw [D.dat, kqdP]
      exact ⟨_, reads_list_at (hh _ _ hm) hc hd (by simpa using q)⟩
  · cases n with
    | zero => simp [kqdOk, D.dat] at hk
    | succ n =>
      obtain ⟨as, q⟩ := ih n (by simpa [kqdOk, D.dat] using hk)
      rw [D.dat, kqdP]
      exact ⟨as, reads_tuple_at (hh _ _ hm) hc hd (by simpa using q)⟩
  · cases n <;> simp [kqdOk, D.dat] at hk
  · cases n <;> simp [kqdOk, D.dat] at hk
  · obtain ⟨as, q⟩ := ih1 n (hk _ (by rw [D.dats]; exact .head _))
    obtain ⟨bs, p⟩ := ih2 n fun d hm => hk d (by rw [D.dats]; exact .tail _ hm)
    rw [D.dats, kqdPs]
    exact ⟨_, ReadsAll.cons q p⟩
noncomputable def D.ok (d : D) : Bool := kqdOk 9 d.dat
section
variable {G : Gs} {n : Nat} {A : Around} {sc : Scope} {on : List Str} {B : Bse} {cx : Cx} {env : Env} {s : Shared} {N : Lg}
theorem Rm.u {A : Around} (rm : Rm A n) : A.units + 64 < cLine := by have := rm.units; show A.units + 64 < 9900; lia
theorem D.shaped {d : D} (h : d.ok = true) : SeqAt.shaped (kqdP d.dat) = true := by
  have l := kqd_lay 9 d.dat h
  unfold SeqAt.shaped; rw [l.1, Bool.true_and]; exact decide_eq_true (Nat.le_trans l.2 (by decide))
theorem D.eqv {d e : D} {b : Bool} (h1 : d.ok = true) (h2 : e.ok = true) (hb : b = true ↔ d.dat = e.dat) : PyData.eqv (kqdP d.dat) (kqdP e.dat) = b := by
  have q := kqd_eqv 9 d.dat e.dat 9 h1 h2
  cases b with
  | true => exact q.mpr (hb.mp rfl)
  | false => exact Bool.eq_false_iff.mpr fun x => by have := hb.mpr (q.mp x); cases this
theorem cm_eqD {d e : D} {b : Bool} (h1 : d.ok = true) (h2 : e.ok = true) (hb : b = true ↔ d.dat = e.dat) : Cm2 G n .Eq d e b := ⟨fun A s N x y rm ok r1 r2 => ⟨fun Q E k => by
  obtain ⟨as, ra⟩ := r1.reads ok.hold 9 h1
  obtain ⟨bs, rb⟩ := r2.reads ok.hold 9 h2
  have q := k _ _ (Gr.refl ok)
  rw [← D.eqv h1 h2 hb] at q
  with_reducible exact eq_dataH ra rb (D.shaped h1) (D.shaped h2) rm.u q⟩⟩
theorem cm_neD {d e : D} {b : Bool} (h1 : d.ok = true) (h2 : e.ok = true) (hb : b = false ↔ d.dat = e.dat) : Cm2 G n .NotEq d e b := ⟨fun A s N x y rm ok r1 r2 => ⟨fun Q E k => by
  obtain ⟨as, ra⟩ := r1.reads ok.hold 9 h1
  obtain ⟨bs, rb⟩ := r2.reads ok.hold 9 h2
  have q := k _ _ (Gr.refl ok)
  have e' : b = !PyData.eqv (kqdP d.dat) (kqdP e.dat) := by
    rw [D.eqv (b := !b) h1 h2 (by cases b <;> simpa using hb)]; simp
  rw [e'] at q
  with_reducible exact ne_dataH ra rb (D.shaped h1) (D.shaped h2) rm.u q⟩⟩
theorem D.dats_mem {ds : List D} {x : Dat} : x ∈ D.dats ds ↔ ∃ d ∈ ds, d.dat = x := by
  induction ds with
  | nil => simp [D.dats]
  | cons d ds ih => simp only [D.dats, List.mem_cons, ih]; constructor
                    · rintro (h | ⟨e, h1, h2⟩)
                      · exact ⟨d, .inl rfl, h.symm⟩
                      · exact ⟨e, .inr h1, h2⟩
                    · rintro ⟨e, h1 | h1, h2⟩
                      · left; rw [← h2, h1]
                      · exact .inr ⟨e, h1, h2⟩
theorem D.ok_list {ds : List D} : (D.list ds).ok = true ↔ ∀ d ∈ ds, kqdOk 8 d.dat = true := by
  unfold D.ok
  rw [D.dat]
  simp only [kqdOk, List.all_eq_true]
  constructor
  · intro h d hd; exact h _ (D.dats_mem.mpr ⟨d, hd, rfl⟩)
  · intro h x hx; obtain ⟨d, h1, h2⟩ := D.dats_mem.mp hx; rw [← h2]; exact h d h1
theorem cm_inD {ds : List D} {d : D} {b : Bool} (h1 : (D.list ds).ok = true) (h2 : kqdOk 8 d.dat = true) (hb : b = true ↔ d.dat ∈ D.dats ds) : Cm2 G n .In d (.list ds) b := ⟨fun A s N x y rm ok r1 r2 => ⟨fun Q E k => by
  obtain ⟨as, ra⟩ := r1.reads ok.hold 8 h2
  obtain ⟨bs, rb⟩ := r2.reads ok.hold 9 h1
  have h1' : ∀ e ∈ D.dats ds, kqdOk 8 e = true := fun e he => by obtain ⟨d', h3, h4⟩ := D.dats_mem.mp he; rw [← h4]; exact D.ok_list.mp h1 d' h3
  have l := kqd_layL h1'
  have ld := kqd_lay 8 d.dat h2
  have q := k _ _ (Gr.refl ok)
  have e : ((kqdPs (D.dats ds)).any fun y => PyData.eqv y (kqdP d.dat)) = b := by
    have z := kqd_any (D.dats ds) d.dat h1' h2
    cases b with
    | true => exact z.mpr (hb.mp rfl)
    | false => exact Bool.eq_false_iff.mpr fun x => by have := hb.mpr (z.mp x); cases this
  rw [← e] at q
  rw [D.dat, kqdP] at rb
  have hu := rm.u
  have hm := Nat.min_le_right (PyData.depthAll (kqdPs (D.dats ds))) (kqdP d.dat).depth
  have hl2 := ld.2
  with_reducible exact SeqAt.in_list_reads rb ra l.1 ld.1 (by lia) q⟩⟩
end
end Mine
end
section
set_option tactic.hygienic false
open PySem PySem.W PyProof.Rows
namespace Mine
section
variable {G : Gs} {n : Nat} {A : Around} {sc : Scope} {on : List Str} {B : Bse} {cx : Cx} {env : Env} {s : Shared} {N : Lg}
theorem sp_keep {A : Around} {s : Shared} {N : Lg} {t : Sem Value} {d : D} (ok : Ok G s N) (h : ∀ (Q : Value → Shared → Prop) (E : Value → Shared → Prop), (∀ v h' tk, (∀ b o, s.heap.get? b = some o → h'.get? b = some o) → Rp N v d → Q v { s with heap := h', toks := tk }) → wpAny G.M A t Q E s) : Sp G A s N t d :=
  ⟨fun Q E k => h Q E fun v h' tk hk r => k v { s with heap := h', toks := tk } N (Gr.keeps ok hk rfl rfl) r⟩
theorem ints_of {N : Lg} {vs : List Value} {xs : List Int} (h : Rps N vs (xs.map .int)) : ∃ l : List (Int × Tok), vs = l.map (fun p => .int p.1 p.2) ∧ l.map (·.1) = xs := by
  induction xs generalizing vs with
  | nil => exact ⟨[], List.eq_nil_of_length_eq_zero h.length, rfl⟩
  | cons x xs ih =>
    obtain ⟨v, us, rfl, a, b⟩ := Rps.inv h
    obtain ⟨l, rfl, rfl⟩ := ih b
    refine a.eInt ?_; intro t
    exact ⟨(x, t) :: l, rfl, rfl⟩
theorem addLs {prog : Program} {w : World} {A : Around} {E : Value → Shared → Prop} {s : Shared} {l b : Addr} {o o2 : Obj} {vs ws : List Value} {n n2 : Nat} {Q : Value → Shared → Prop} (ho : s.heap.get? l = some o) (hc : o.cls = .type "list") (hd : o.data = .seq vs.toArray n) (ho2 : s.heap.get? b = some o2) (hc2 : o2.cls = .type "list") (hd2 : o2.data = .seq ws.toArray n2)
    (hsz : vs.length + ws.length ≤ sizeLine) (h : Q (.ref s.heap.objs.size) { s with heap := s.heap.push { cls := .type "list", data := .seq (vs ++ ws).toArray } }) : wpAny (model prog w) A (binaryOp .Add (.ref l) (.ref b)) Q E s := by
  obtain ⟨cls, dd, data, sl⟩ := o
  obtain ⟨cls2, dd2, data2, sl2⟩ := o2
  simp only at hc hd hc2 hd2
  subst hc hd hc2 hd2
  have e : vs.toArray ++ ws.toArray = (vs ++ ws).toArray := by simp
  refine concat_meets ⟨_, ho, rfl⟩ ⟨_, ho2, rfl⟩ noFill_list_add seq_list_add PySem.F.slot_list_add PySem.F.entry_list_add (PySem.F.args_list_add_2 _ _) (list_addW l b vs.toArray ws.toArray n n2 dd dd2 sl sl2 (by simpa using hsz)) ⟨ho, ho2, ?_⟩
  rw [e]; exact h
theorem fn_max2 {a b : Int} : Fn G n (.builtin "max") [.int a, .int b] (.int (max a b)) := ⟨fun A s N vs rm ok hr => by
  refine hr.e2 ?_; intro v v' h1 h2; refine h1.eInt ?_; intro t; refine h2.eInt ?_; intro u
  refine sp_keep ok fun Q E k => ?_
  with_reducible refine max_two_ints rm.handled fun h' tk hk => ?_
  have e : (if b > a then Value.int b u else Value.int a t) = .int (max a b) (if b > a then u else t) := by split <;> (congr 1; lia)
  rw [e]; exact k _ h' tk hk (.int _ _)⟩
theorem fn_min2 {a b : Int} : Fn G n (.builtin "min") [.int a, .int b] (.int (min a b)) := ⟨fun A s N vs rm ok hr => by
  refine hr.e2 ?_; intro v v' h1 h2; refine h1.eInt ?_; intro t; refine h2.eInt ?_; intro u
  refine sp_keep ok fun Q E k => ?_
  with_reducible refine min_two_ints rm.handled fun h' tk hk => ?_
  have e : (if b < a then Value.int b u else Value.int a t) = .int (min a b) (if b < a then u else t) := by split <;> (congr 1; lia)
  rw [e]; exact k _ h' tk hk (.int _ _)⟩
noncomputable def maxL : List Int → Int
  | [] => 0
  | x :: xs => xs.foldl max x
theorem argBest_max (v : Nat → Int) : ∀ k, v (argBest (fun i j => decide (v i > v j)) k) = (List.range k).foldl (fun a i => max a (v (i + 1))) (v 0)
  | 0 => rfl
  | k + 1 => by
    rw [List.range_succ, List.foldl_append, ← argBest_max v k]
    show v (if decide (v (k + 1) > v (argBest (fun i j => decide (v i > v j)) k)) = true then k + 1 else argBest (fun i j => decide (v i > v j)) k) = max (v (argBest (fun i j => decide (v i > v j)) k)) (v (k + 1))
    by_cases h : v (k + 1) > v (argBest (fun i j => decide (v i > v j)) k)
    · rw [if_pos (by simpa using h)]; lia
    · rw [if_neg (by simpa using h)]; lia
theorem foldl_range_getD : ∀ (ys : List Int) (a : Int), (List.range ys.length).foldl (fun a i => max a (ys.getD i 0)) a = ys.foldl max a
  | [], _ => rfl
  | y :: ys, a => by
    rw [List.length_cons, List.range_succ_eq_map, List.foldl_cons, List.foldl_map]
    simpa using foldl_range_getD ys (max a y)
theorem fn_max {x : Int} {xs : List Int} : Fn G n (.builtin "max") [.list ((x :: xs).map .int)] (.int (maxL (x :: xs))) := ⟨fun A s N vs rm ok hr => by
  refine hr.e1 ?_; intro v h1; refine h1.eList ?_; intro a o ws e a1 a2 a3 a4
  obtain ⟨l, h1, h2⟩ := ints_of a4
  refine sp_keep ok fun Q E k => ?_
  have hL : s.heap.IsList _ (intItems l.toArray) := ⟨_, ok.hold _ _ a1, a2, _, a3.trans (by rw [h1]; simp only [intItems, List.map_toArray]; rfl)⟩
  have hlen : l.length = xs.length + 1 := by have := congrArg List.length h2; simpa using this
  have hnum : ∀ i, numAt l.toArray i = (x :: xs).getD i 0 := fun i => by
    unfold numAt
    rw [← h2]
    simp only [List.getElem?_toArray, List.getD_eq_getElem?_getD, List.getElem?_map]
  with_reducible refine max_intList rm.handled hL (by simp; lia) fun v h' tk hv hk => ?_
  obtain ⟨t, rfl⟩ := intItems_at hv
  have e : numAt l.toArray (argBest (fun i j => decide (numAt l.toArray i > numAt l.toArray j)) (l.toArray.size - 1)) = maxL (x :: xs) := by
    rw [argBest_max (numAt l.toArray), List.size_toArray, hlen]
    simp only [hnum]
    exact foldl_range_getD xs x
  rw [e]
  exact k _ h' tk hk (.int _ _)⟩
theorem preSum_sum : ∀ (l : List (Int × Tok)) (acc : List (Int × Tok)), preSum (numAt (acc ++ l).toArray) (acc ++ l).length = preSum (numAt (acc ++ l).toArray) acc.length + (l.map (·.1)).sum
  | [], acc => by simp
  | p :: l, acc => by
    have h := preSum_sum l (acc ++ [p])
    rw [List.append_assoc] at h
    have e : [p] ++ l = p :: l := rfl
    rw [e] at h
    rw [h, List.length_append, List.length_singleton]
    show preSum (numAt (acc ++ p :: l).toArray) acc.length + numAt (acc ++ p :: l).toArray acc.length + _ = _
    have e2 : numAt (acc ++ p :: l).toArray acc.length = p.1 := by unfold numAt; simp
    rw [e2, List.map_cons, List.sum_cons]; lia
theorem fn_sum {xs : List Int} : Fn G n (.builtin "sum") [.list (xs.map .int)] (.int xs.sum) := ⟨fun A s N vs rm ok hr => by
  refine hr.e1 ?_; intro v h1; refine h1.eList ?_; intro a o ws e a1 a2 a3 a4
  obtain ⟨l, h1, h2⟩ := ints_of a4
  refine sp_keep ok fun Q E k => ?_
  have hL : s.heap.IsList _ (intItems l.toArray) := ⟨_, ok.hold _ _ a1, a2, _, a3.trans (by rw [h1]; simp only [intItems, List.map_toArray]; rfl)⟩
  refine call_sum_walkG (iter_intList hL fun s₂ e st hfp hlI => ?_)
  subst e
  refine ⟨_, _, _, _, _, _, numAt l.toArray, rfl, Walks.list (A := A.in1) rm.handled _ _ hlI (intItems l.toArray), st, hfp, (fun _ _ => intItems_at), fun h' tk t' hk => ?_⟩
  have e : preSum (numAt l.toArray) (intItems l.toArray).size = xs.sum := by
    have := preSum_sum l []
    simp only [List.nil_append, List.length_nil] at this
    rw [show (intItems l.toArray).size = l.length by simp [intItems], this, h2]
    simp [preSum]
  rw [e]
  refine k _ h' tk (fun b o hb => hk b o (fun hm => ?_) (Heap.get?_push_of_some _ hb)) (.int _ _)
  have hlt := Heap.lt_size hb
  rcases List.mem_singleton.mp hm with rfl
  exact Nat.lt_irrefl _ hlt⟩
theorem op_addL {ds es : List D} (hsz : ds.length + es.length ≤ sizeLine) : Op2M G n .Add (.list ds) (.list es) (ds ++ es) := ⟨fun A s N x y rm ok r1 r2 => ⟨fun Q E k => by
  refine r1.eList ?_; intro la oa vs na a1 a2 a3 a4; refine r2.eList ?_; intro lb ob ws nb b1 b2 b3 b4
  have hl := a4.length
  have hl' := b4.length
  exact addLs (ok.hold _ _ a1) a2 a3 (ok.hold _ _ b1) b2 b3 (by lia) (by
    have hno : s.heap.get? s.heap.objs.size = Option.none := Heap.get?_none_of_le (Nat.le_refl _)
    refine k _ _ { s with heap := _ } N (Gr.keeps ok (fun a o e => Heap.get?_push_of_some _ e) rfl rfl) hno (fun o e => ?_) ⟨_, Heap.get?_push_size _ rfl, ⟨rfl, rfl⟩, 0, rfl⟩ (a4.append b4)
    have := ok.hold _ _ e; rw [hno] at this; cases this)⟩⟩
end
end Mine
end
section
set_option tactic.hygienic false
open PySem PySem.W PyProof.Rows
namespace Mine
section
variable {G : Gs} {n : Nat} {A : Around} {sc : Scope} {on : List Str} {B : Bse} {cx : Cx} {env : Env} {s : Shared} {N : Lg}
theorem Fs.setL {x : Str} {ds es : List D} {a : Addr} {vs : List Value} {h' : Heap} {tk : Nat} (F : Fs G sc on B ((x, .lst ds) :: cx) env s N) (hx : ∀ p ∈ cx, p.1 ≠ x) (hs : Sees s.heap env x (.ref a)) (hl : LstAt h' a vs.toArray) (hr : Rps N vs es) (hb : Heap.SameBut a s.heap h') :
    Fs G sc on B ((x, .lst es) :: cx) env { s with heap := h', toks := tk } N := by
  obtain ⟨al, g1, g2⟩ := F.lists
  obtain ⟨ws, i1, ⟨o, i2, i2c, nn, i2d⟩, i3, i4, i5, i6⟩ := g1 x ds (.head _)
  have ha : a = al x := by have := hs.uniq i1; cases this; rfl
  subst ha
  have hL : env.locals ≠ al x := fun e => by
    obtain ⟨m, o', es', ep, h1, h2, _⟩ := F.loc
    rw [e, i2] at h1; cases h1; rw [i2d] at h2; cases h2
  have hsee : ∀ y v, Sees s.heap env y v → Sees h' env y v := fun y v ⟨n1, z⟩ => by
    rcases z with ⟨z1, m, z2, z3⟩ | ⟨z1, c, z2, z3⟩
    · exact ⟨n1, .inl ⟨z1, m, z2.sameBut hb hL, z3⟩⟩
    · refine ⟨n1, .inr ⟨z1, c, z2, z3.sameBut hb fun e => ?_⟩⟩
      obtain ⟨o', z4, z5⟩ := z3
      rw [e, i2] at z4; cases z4; rw [i2d] at z5; cases z5
  have hal : ∀ y fs, (y, Ent.lst fs) ∈ cx → al y ≠ al x := fun y fs hy e => hx _ hy (g2 y x fs ds (.tail _ hy) (.head _) e)
  refine { tp := F.tp, hold := fun b q e => (hb.2 b fun w => i5 q (w ▸ e)).trans (F.hold b q e), envOk := F.envOk, vars := fun y t hy => ?_, keep := fun b q h e => (hb.2 b fun w => ?_).trans (F.keep b q h e), le := F.le, new := F.new, gens := F.gens, os := F.os, loc := ?_, L0 := F.L0, LN := F.LN, cells := fun y hy => ?_, apart := F.apart, ext := fun p hp => ?_, lists := ⟨al, fun y fs hy => ?_, fun y z fs gs hy hz e => ?_⟩ }
  · rcases List.mem_cons.mp hy with e | hy
    · cases e; exact ⟨_, vs, hsee _ _ i1, hl, hr⟩
    · have z := F.vars y t (.tail _ hy)
      cases t with
      | imm d => obtain ⟨v, p, q⟩ := z; exact ⟨v, hsee _ _ p, q⟩
      | lst fs =>
        obtain ⟨ws', j1, ⟨o', j2, j3⟩, j4, j5, j6, j7⟩ := g1 y fs (.tail _ hy)
        exact ⟨_, ws', hsee _ _ j1, ⟨o', (hb.2 _ (hal y fs hy)).trans j2, j3⟩, j4⟩
  · rw [w, i4] at e; cases e
  · obtain ⟨m, hm⟩ := F.loc; exact ⟨m, hm.sameBut hb hL⟩
  · obtain ⟨c, v, h1, h2, h3⟩ := F.cells y hy
    refine ⟨c, v, h1, h2.sameBut hb fun e => ?_, h3⟩
    obtain ⟨o', z4, z5⟩ := h2
    rw [e, i2] at z4; cases z4; rw [i2d] at z5; cases z5
  · obtain ⟨h1, h2⟩ := F.ext p hp
    exact ⟨(hb.2 _ (i6 p hp)).trans h1, h2⟩
  · rcases List.mem_cons.mp hy with e | hy
    · cases e; exact ⟨vs, hsee _ _ i1, hl, hr, i4, i5, i6⟩
    · obtain ⟨ws', j1, ⟨o', j2, j3⟩, j4⟩ := g1 y fs (.tail _ hy)
      exact ⟨ws', hsee _ _ j1, ⟨o', (hb.2 _ (hal y fs hy)).trans j2, j3⟩, j4⟩
  · rcases List.mem_cons.mp hy with e1 | hy <;> rcases List.mem_cons.mp hz with e2 | hz
    · cases e1; cases e2; rfl
    · cases e1; exact g2 _ z ds gs (.head _) (.tail _ hz) e
    · cases e2; exact g2 y _ fs ds (.tail _ hy) (.head _) e
    · exact g2 y z fs gs (.tail _ hy) (.tail _ hz) e
variable {Q : Flow → Shared → Prop} {E : Value → Shared → Prop} {rest : List Stmt}
theorem append_ {x : Str} {e : Expr} {p p1 p2 p3 : Pos} {ds : List D} {d : D} {cx' : Cx} (F : Fs G sc on B cx env s N) (rm : Rm A n) (he : Ev G n sc cx e d) (hin : ∀ q ∈ ((x, Ent.lst ds) :: cx'), q ∈ cx) (hx : (cx'.all fun p => p.1 != x) = true) (hsz : ds.length ≤ sizeLine)
    (k : ∀ s' N', Fs G sc on B ((x, .lst (ds ++ [d])) :: cx') env s' N' → Wp G A (execs rest env) Q E s')
    (hst : ∀ env, starEach [e] env = (false, eval e env) :: starEach [] env := by intro _; rfl)
    (ht : ∀ env, ((((backTo p2 (starEach [e] env)).all fun x => !x.fst) && (backToKw p2 (keywordEach [] env)).all fun x => x.fst.isSome) && decide (([e].length + ([] : List Keyword).length + if ([] : List Keyword).isEmpty = true then 0 else 1) < 30)) = true := by intro _; rfl)
    (hl : (p1.endLine == p2.line) = true := by rfl)
    (hw : ∀ env, EnvOk sc env → swapsWith (.Call (.Attribute (.Name x p) "append" p1) [e] [] p2) none p3.line env = pure false := by intro _ _; rfl) :
    Wp G A (execs (.Expr (.Call (.Attribute (.Name x p) "append" p1) [e] [] p2) p3 :: rest) env) Q E s := by
  have hx' : ∀ p ∈ cx', p.1 ≠ x := fun p hp => by simpa using List.all_eq_true.mp hx p hp
  refine wseq ⟨?_⟩
  have hi : interactive env = false := by unfold interactive; rw [F.fk]; rfl
  with_reducible refine wpAny_Expr_any ?_ hi (hw env F.envOk)
  obtain ⟨al, g1, g2⟩ := F.lists
  obtain ⟨ws, i1, i2, i3, i4⟩ := g1 x ds (hin _ (.head _))
  have hb : attributeBase (.Name x p) "append" env (eval (.Name x p) env) = eval (.Name x p) env := rfl
  with_reducible refine wpAny_Call_method_lateS hb (ht env) hl (i1.name F.fk ?_)
  obtain ⟨o, i2a, i2b, nn, i2c⟩ := i2
  refine ⟨"list", "list.append", PySem.F.plainAttrs_list, slot_list_append, type_list_append, ⟨o, i2a, i2b.1⟩, fun a ea => by cases ea; exact ⟨o, i2a, i2b.2⟩, ?_⟩
  with_reducible refine PyProof.Rows.callWith_method1 ?_ (hst env) (by with_unfolding_all rfl)
  refine (EvL.cons he .nil hst).go A env s N p2 rm F.toVw _ _ fun vs s1 N1 g r => ?_
  obtain ⟨v, rfl, r1⟩ : ∃ v, vs = [v] ∧ Rp N1 v d := r.e1 fun v r => ⟨v, rfl, r⟩
  have F1 := (F.gr g).sub hin
  have hl1 : LstAt s1.heap (al x) ws.toArray := ⟨o, g.keep _ _ i2a, i2b, nn, i2c⟩
  refine append_lst (by simp only [List.size_toArray, i3.length]; exact hsz) hl1 fun h' hl' hs' => ?_
  refine k { s1 with heap := h' } N1 (F1.setL (vs := ws ++ [_]) (tk := s1.toks) hx' (i1.keeps g.keep) ?_ ((i3.mono g.le).append (.one r1)) hs')
  simpa using hl'
end
end Mine
end
section
set_option tactic.hygienic false
open PySem PySem.W PyProof.Rows
namespace Mine
theorem DK.look {od : Obj} {m : Str → Option Value} {n : Nat} (h : DK od m n) (y : Str) : lookIn y od = some (m y) := by
  obtain ⟨es, ep, hd, hk, hm, _⟩ := h.at_
  unfold lookIn
  rw [hd]
  dsimp only
  rw [← hm y]
  unfold nsFind findBy
  rw [← Array.find?_toList]
  cases hf : es.toList.find? (fun e => e.key.isStr y) with
  | some e => rfl
  | none =>
    have : es.toList.any (·.refKey) = false := by
      rw [List.any_eq_false]; intro e he; obtain ⟨n, t, h⟩ := hk e (by simpa using he); simp [DictEntry.refKey, h]
    dsimp only
    rw [this]; rfl
theorem DK.put {od : Obj} {m : Str → Option Value} {n : Nat} (h : DK od m n) (name : Str) (hash : Int) (t : Tok) (v : Value) : DK (Obj.putName name hash (.str name t) v od) (fun x => if x = name then some v else m x) (n + 1) := by
  obtain ⟨es, ep, hd, hk, hm, hs⟩ := h.at_
  obtain ⟨c, d, dt, sl⟩ := od
  dsimp only at hd
  subst hd
  cases hi : es.findIdx? (·.key.isStr name) with
  | some i =>
    refine ⟨_, ep, by simp only [Obj.putName_eq, Obj.putNameByArray, hi]; rfl, hk.modify _ _, fun x => ?_, by rw [Array.size_modify]; lia⟩
    rw [← hm]; exact findBy_modify (fun n v => v.isStr n) Value.isStr_inj es name x v i hi
  | none =>
    refine ⟨_, ep + 1, by simp only [Obj.putName_eq, Obj.putNameByArray, hi]; rfl, hk.push _ _ _ _, fun x => ?_, by rw [Array.size_push]; lia⟩
    rw [← hm]
    exact findBy_push (fun n v => v.isStr n) es name x _ _ v (fun y => by
      show (name == y) = decide (y = name)
      by_cases h : y = name
      · subst h; simp
      · simp [h, Ne.symm h]) hi
theorem DK.eq {od : Obj} {m m' : Str → Option Value} {n : Nat} (h : DK od m n) (e : ∀ y, m y = m' y) : DK od m' n := by
  have : m = m' := funext e
  rw [← this]; exact h

noncomputable def attrOk (K : Frag) (C : Addr) (name : Str) : Bool := findIn K (.ref C) "__getattribute__" == some (some (.builtin "object.__getattribute__")) && findIn K (.ref C) name == some none && (clsIn K C).any (·.hasDict)
theorem find_own {K : Frag} {C : Addr} {name : Str} {od : Obj} {m : Str → Option Value} {n : Nat} {v : Value} (h : attrOk K C name = true) (hd : DK od m n) (hv : m name = some v) : findIn K (.ref C) "__getattribute__" = some (some (.builtin "object.__getattribute__")) ∧ findObj K C (some od) name = some (.value v) := by
  simp only [attrOk, Bool.and_eq_true, beq_iff_eq] at h
  obtain ⟨⟨h1, h2⟩, h3⟩ := h
  obtain ⟨cd, hc, hh⟩ := any_some h3
  refine ⟨h1, ?_⟩
  unfold findObj
  rw [hc, Option.bind_some, h2, Option.bind_some]
  show ((W.ownOf cd (some od) name).bind _) = _
  have : W.ownOf cd (some od) name = some (some v) := by
    unfold W.ownOf
    rw [if_pos hh]
    dsimp only
    rw [hd.look, hv]
  rw [this]; rfl
theorem Rp.handed {N : Lg} {v : Value} {d : D} (r : Rp N v d) : handedIn v = true := by cases r <;> rfl

section
variable {prog : Program} {w : World} {A : Around} {E : Value → Shared → Prop} {s : Shared} {K : Frag} {x C dx : Addr} {o od : Obj} {name : Str} {m : Str → Option Value} {n : Nat} {v : Value}
theorem inst_at (ho : s.heap.get? x = some o) (hc : o.cls = .ref C ∧ o.dict = some dx ∧ o.data = .plain) (hd : s.heap.get? dx = some od) : InstAt s.heap x o C (some od) := by
  obtain ⟨c1, c2, c3⟩ := hc
  exact ⟨ho, c1, by unfold notCls; rw [c3], by rw [c2]; exact hd⟩
theorem get_own {expr : Bool} {Q : Value → Shared → Prop} (X : K.In s.heap) (ho : s.heap.get? x = some o) (hc : o.cls = .ref C ∧ o.dict = some dx ∧ o.data = .plain) (hd : s.heap.get? dx = some od) (hk : DK od m n) (ok : attrOk K C name = true) (hv : m name = some v) (hh : handedIn v = true)
    (h : Q v { s with toks := s.toks + 1 }) : wpAny (model prog w) A (getAttr (.ref x) name expr) Q E s := by
  obtain ⟨h1, h2⟩ := find_own ok hk hv
  exact get_value X (inst_at ho hc hd) h1 h2 hh h
noncomputable def storeOk (K : Frag) (C : Addr) (name : Str) : Bool := findIn K (.ref C) "__setattr__" == some (some (.builtin "object.__setattr__")) && plainOver K C && takerIn K C name == some none && (clsIn K C).any (·.hasDict)
theorem set_own_ {Q : Unit → Shared → Prop} (X : K.In s.heap) (ho : s.heap.get? x = some o) (hc : o.cls = .ref C ∧ o.dict = some dx ∧ o.data = .plain) (hd : s.heap.get? dx = some od) (hk : DK od m n) (hn : n < 1000) (ok : storeOk K C name = true)
    (h : ∀ h' od' tk, h'.get? dx = some od' → DK od' (fun y => if y = name then some v else m y) (n + 1) → Heap.SameBut dx s.heap h' → Q () { s with heap := h', toks := tk }) : wpAny (model prog w) A (setAttr (.ref x) name v) Q E s := by
  simp only [storeOk, Bool.and_eq_true, beq_iff_eq] at ok
  obtain ⟨⟨⟨h1, h2⟩, h3⟩, h4⟩ := ok
  have I := inst_at ho hc hd
  refine set_plain X I h1 ?_
  have I' : InstAt ({ s with toks := s.toks + 1 } : Shared).heap x o C (some od) := I
  refine osa_open (s := { s with toks := s.toks + 1 }) (R := fun r s' => match r with | .ok (.ret _) => Q () s' | .ok _ => False | .error e => E e s') X I' h2 h3 fun b => ?_
  obtain ⟨cd, hcd, hd'⟩ := any_some h4
  obtain ⟨oc, odi, oda, osl⟩ := o
  obtain ⟨c1, c2, c3⟩ := hc
  dsimp only at c1 c2 c3
  subst c1 c2 c3
  show wpAny _ _ (Builtin.ObjectAttr.storeInOwnDict (.ref x) (.ref C) (.str name s.toks) name v b) _ _ _
  refine wpAny_bind (wpAny_pure (wpAny_bind (wpAny_bind (wpAny_loadPart ho (wpAny_bind (looks_clsIn X hcd _ _ _ _ (fun _ _ e => e) ?_))))))
  rw [hd']
  refine wpAny_pure (a := some dx) (wpAny_bind (wpAny_pure (wpAny_bind ?_)))
  unfold nsSet
  obtain ⟨es, ep, hda, hk1, hk2, hk3⟩ := id hk.at_
  refine wpAny_bind (wpAny_bind (wpAny_askSetting (wpAny_pure (wpAny_bind (wpAny_mkText (wpAny_bind (wpAny_loadPart hd ?_)))))))
  rw [hda]
  dsimp only
  have hr : es.any (·.refKey) = false := by
    rw [Array.any_eq_false']; intro e he; obtain ⟨n, t, h⟩ := hk1 e he; simp [DictEntry.refKey, h]
  rw [aRefKeyMayBeTheName_at, hr, Bool.and_false]
  have hput := hk.put name (PyData.keyHash w.params name) (s.toks + 1) v
  refine wpAny_updatePart hd ?_
  obtain ⟨es', ep', hda', _, _, hsz'⟩ := id hput.at_
  have hg : (s.heap.update dx (Obj.putName name (PyData.keyHash w.params name) (.str name (s.toks + 1)) v)).get? dx = some (Obj.putName name (PyData.keyHash w.params name) (.str name (s.toks + 1)) v od) := Heap.get?_update_self _ hd (Obj.isFreed_of_dict hda')
  refine wpAny_bind (wpAny_lookBehind hg (by rw [hda']; exact pastItsLine_dict (by rw [sizeLine_eq]; lia)) ?_)
  exact wpAny_pure (h _ _ _ hg hput (Heap.SameBut.update ..))
end

section
variable {G : Gs} {n : Nat} {A : Around} {sc : Scope} {on : List Str} {B : Bse} {cx : Cx} {env : Env} {s : Shared} {N : Lg}
theorem Ok.frag (ok : Ok G s N) : G.K.In s.heap := fun a o e => ok.at (G.hK a o e)
theorem zip_look {N : Lg} {ks : List Str} {vs : List Value} {ds : List D} (h : Rps N vs ds) : ∀ {y : Str} {d : D}, (ks.zip ds).lookup y = some d → ∃ v, (ks.zip vs).lookup y = some v ∧ Rp N v d :=
  h.ind (C := fun vs ds => ∀ {ks : List Str} {y : Str} {d : D}, (ks.zip ds).lookup y = some d → ∃ v, (ks.zip vs).lookup y = some v ∧ Rp N v d) (fun {ks y d} e => by rw [List.zip_nil_right] at e; nomatch e) fun v vs d ds hv _ ih ks y d' e => by
    cases ks with
    | nil => nomatch e
    | cons k ks =>
      rw [List.zip_cons_cons, List.lookup_cons] at e ⊢
      cases h : y == k with
      | true => rw [h] at e; cases e; exact ⟨v, rfl, hv⟩
      | false => rw [h] at e; exact ih e
theorem Ev.attr {e : Expr} {name : Str} {p : Pos} {C : Addr} {ks : List Str} {ds : List D} {d : D} (he : Ev G n sc cx e (.obj C ks ds)) (ok : attrOk G.K C name = true) (hl : (ks.zip ds).lookup name = some d)
    (hb : ∀ env, eval (.Attribute e name p) env = (do
      let o ← eval e env
      standAt p.atName
      let r ← holding [o] (getAttr o name true)
      letTemporaryGo e o r
      pure r) := by intro _; rfl) : Ev G n sc cx (.Attribute e name p) d := by
  refine ⟨fun A env s N rm z => ⟨fun Q E k => ?_⟩⟩
  with_reducible refine Attribute_any_ ((he.go A env s N rm z).go _ _ fun v s1 N1 g1 r1 => ?_) (hb env)
  have ok1 := (z.gr g1).toOk
  cases r1 with | obj h1 h2 h3 h4 h5 =>
    obtain ⟨v, hv, rv⟩ := zip_look h5 hl
    exact get_own ok1.frag (ok1.hold _ _ h1) h2 (ok1.hold _ _ h3) h4 ok hv rv.handed (k _ _ _ (g1.trans (Gr.toks ok1 _)) rv)
noncomputable def methOk (K : Frag) (C : Addr) (name : Str) (f : Addr) : Bool := findIn K (.ref C) "__getattribute__" == some (some (.builtin "object.__getattribute__")) && findIn K (.ref C) "__getattr__" == some none && findIn K (.ref C) name == some (some (.ref f)) && typeIn K (.ref f) == some (.type "function") && keepIn K (.ref f)
theorem meth_of {E : Value → Shared → Prop} {K : Frag} {x C f dx : Addr} {o od : Obj} {name : Str} {m : Str → Option Value} {n : Nat} {pl : Sem Bool} {Q : Value × List Value → Shared → Prop} (X : K.In s.heap) (ho : s.heap.get? x = some o) (hc : o.cls = .ref C ∧ o.dict = some dx ∧ o.data = .plain) (hd : s.heap.get? dx = some od) (hk : DK od m n) (hm : m name = none) (ok : methOk K C name f = true)
    (h : Q (.ref f, [.ref x]) s) : wpAny (model G.prog G.w) A (getMethod (.ref x) name pl) Q E s := by
  simp only [methOk, Bool.and_eq_true, beq_iff_eq] at ok
  obtain ⟨⟨⟨⟨h1, h2⟩, h3⟩, h4⟩, _⟩ := ok
  exact method_fn X (inst_at ho hc hd) h1 h2 h3 h4 (by unfold shadowIn; dsimp only; rw [hk.look, hm]; rfl) h
theorem zip_none {y : Str} : ∀ {ks : List Str} {vs : List Value}, ks.contains y = false → (ks.zip vs).lookup y = none
  | [], _, _ => by simp
  | _ :: _, [], _ => by simp
  | k :: ks, v :: vs, e => by
    rw [List.contains_cons, Bool.or_eq_false_iff] at e
    rw [List.zip_cons_cons, List.lookup_cons, e.1]
    exact zip_none e.2
theorem Ev.methI0 {pl : Env → Sem Bool} {e : Expr} {name : Str} {apos pos : Pos} {C f : Addr} {ks : List Str} {ds : List D} {d : D} (he : Ev G n sc cx e (.obj C ks ds)) (ok : methOk G.K C name f = true) (hn : ks.contains name = false) (hc : Fn G n (.ref f) [.obj C ks ds] d)
    (hb : ∀ env, eval (.Call (.Attribute e name apos) [] [] pos) env = (do
      let ov ← eval e env
      standAt apos.atName
      let (f, first) ← holding [ov] (getMethod ov name (pl env))
      callWith pos f first (backTo pos (starEach [] env)) (backToKw pos (keywordEach [] env))) := by intro _; rfl) : Ev G n sc cx (.Call (.Attribute e name apos) [] [] pos) d := by
  refine ⟨fun A env s N rm z => ⟨fun Q E k => ?_⟩⟩
  with_reducible refine methodCall_KW ((he.go A env s N rm z).go _ _ fun v s1 N1 g1 r1 => ?_) (hb env)
  have ok1 := (z.gr g1).toOk
  cases r1 with | obj h1 h2 h3 h4 h5 =>
    with_reducible refine meth_of ok1.frag (ok1.hold _ _ h1) h2 (ok1.hold _ _ h3) h4 (zip_none hn) ok ?_
    have hk : keepIn G.K (.ref f) = true := by simp only [methOk, Bool.and_eq_true] at ok; exact ok.2
    have hq := (hc.go A s1 N1 [.ref _] rm ok1 (.one (.obj h1 h2 h3 h4 h5))).go Q E fun v s2 N2 g2 r2 => k _ _ _ (g1.trans g2) r2
    exact callWith_K0 ok1.frag hk hq
theorem Ev.methI {pl : Env → Sem Bool} {e a : Expr} {as : List Expr} {name : Str} {apos pos : Pos} {C f : Addr} {ks : List Str} {ds es : List D} {d : D} (he : Ev G n sc cx e (.obj C ks ds)) (ok : methOk G.K C name f = true) (hn : ks.contains name = false) (ha : EvL G n sc cx (a :: as) es) (hc : Fn G n (.ref f) (.obj C ks ds :: es) d)
    (hb : ∀ env, eval (.Call (.Attribute e name apos) (a :: as) [] pos) env = (do
      let ov ← eval e env
      standAt apos.atName
      let (f, first) ← holding [ov] (getMethod ov name (pl env))
      callWith pos f first (backTo pos (starEach (a :: as) env)) (backToKw pos (keywordEach [] env))) := by intro _; rfl)
    (hs : ∀ env, starEach (a :: as) env = (false, eval a env) :: starEach as env := by intro _; rfl) (hp : ∀ env pos, (backTo pos (starEach as env)).any (·.1) = false := by intro _ _; rfl) : Ev G n sc cx (.Call (.Attribute e name apos) (a :: as) [] pos) d := by
  refine ⟨fun A env s N rm z => ⟨fun Q E k => ?_⟩⟩
  with_reducible refine methodCall_KW ((he.go A env s N rm z).go _ _ fun v s1 N1 g1 r1 => ?_) (hb env)
  have ok1 := (z.gr g1).toOk
  cases r1 with | obj h1 h2 h3 h4 h5 =>
    with_reducible refine meth_of ok1.frag (ok1.hold _ _ h1) h2 (ok1.hold _ _ h3) h4 (zip_none hn) ok ?_
    have hk : keepIn G.K (.ref f) = true := by simp only [methOk, Bool.and_eq_true] at ok; exact ok.2
    refine callWith_K ok1.frag hk (ha.go A env s1 N1 pos rm (z.gr g1) _ _ fun vs s2 N2 g2 r2 => ?_) (hs env) (hp env pos)
    have ok2 := ((z.gr g1).gr g2).toOk
    exact ⟨ok2.frag, (hc.go A s2 N2 (.ref _ :: vs) rm ok2 (.cons (Rp.mono g2.le (.obj h1 h2 h3 h4 h5)) r2)).go Q E fun v s3 N3 g3 r3 => k _ _ _ ((g1.trans g2).trans g3) r3⟩
end
end Mine
end
section
set_option tactic.hygienic false
open PySem PySem.W PyProof.Rows
namespace Mine
noncomputable abbrev Xs := List (Addr × Obj)
theorem mem_lc {α : Type} {a b c : List α} {p : α} : p ∈ a ++ (b ++ c) ↔ p ∈ b ++ (a ++ c) := by simp only [List.mem_append]; exact or_left_comm
noncomputable def AllX (X X' : Xs) : Prop := ∀ q ∈ X, ∃ p ∈ X', p.1 = q.1
structure Hx (X : Xs) (s : Shared) (N : Lg) : Prop where
  at_ : ∀ p ∈ X, s.heap.get? p.1 = some p.2
  out : ∀ p ∈ X, ∀ o, ¬ N p.1 o
  nc : ∀ p ∈ X, ∀ v, p.2.data ≠ .cell v
structure GrX (X X' : Xs) (s : Shared) (N : Lg) (s' : Shared) (N' : Lg) : Prop where
  keep : ∀ a o, (∀ p ∈ X, p.1 ≠ a) → s.heap.get? a = some o → s'.heap.get? a = some o
  le : ∀ a o, N a o → N' a o
  new : ∀ a o, N' a o → N a o ∨ s.heap.get? a = none
  hold : ∀ a o, N' a o → s'.heap.get? a = some o
  gens : s'.gens = s.gens
  os : s'.os = s.os
  hx : Hx X' s' N'
  src : ∀ p ∈ X', (∃ q ∈ X, q.1 = p.1) ∨ s.heap.get? p.1 = none
  all : AllX X X'
theorem not_new' {s : Shared} {N N' : Lg} (new : ∀ a o, N' a o → N a o ∨ s.heap.get? a = none) {a : Addr} {o : Obj} (ha : s.heap.get? a = some o) (hn : ∀ o, ¬ N a o) : ∀ o, ¬ N' a o := fun o e => by
  rcases new a o e with e | e
  · exact hn o e
  · rw [ha] at e; cases e
theorem Hx.gr {X : Xs} {s s' : Shared} {N N' : Lg} (h : Hx X s N) (g : Gr s N s' N') : Hx X s' N' :=
  ⟨fun p hp => g.keep _ _ (h.at_ p hp), fun p hp => not_new g (h.at_ p hp) (h.out p hp), h.nc⟩
theorem Gr.x {X : Xs} {s s' : Shared} {N N' : Lg} (g : Gr s N s' N') (h : Hx X s N) : GrX X X s N s' N' :=
  ⟨fun a o _ e => g.keep a o e, g.le, g.new, g.hold, g.gens, g.os, h.gr g, fun p hp => .inl ⟨p, hp, rfl⟩, fun q hq => ⟨q, hq, rfl⟩⟩
theorem GrX.ok {G : Gs} {X X' : Xs} {s s1 : Shared} {N N1 : Lg} (x : GrX X X' s N s1 N1) (h : Ok G s N) : Ok G s1 N1 := ⟨h.tp.mono x.le, x.hold⟩
theorem GrX.trans {X X' X'' : Xs} {s s1 s2 : Shared} {N N1 N2 : Lg} (x : GrX X X' s N s1 N1) (y : GrX X' X'' s1 N1 s2 N2) (h : Hx X s N) : GrX X X'' s N s2 N2 := by
  have back : ∀ a, s1.heap.get? a = none → s.heap.get? a = none := fun a e => by
    cases q : s.heap.get? a with
    | none => rfl
    | some o =>
      by_cases hp : ∀ p ∈ X, p.1 ≠ a
      · rw [x.keep a o hp q] at e; cases e
      · have ⟨p, hp1, hp2⟩ : ∃ p ∈ X, p.1 = a := Classical.byContradiction fun h => hp fun p h1 h2 => h ⟨p, h1, h2⟩
        obtain ⟨p', hp', e'⟩ := x.all p hp1
        have := x.hx.at_ p' hp'
        rw [e', hp2, e] at this; cases this
  refine ⟨fun a o hp e => ?_, fun a o e => y.le a o (x.le a o e), fun a o e => ?_, y.hold, y.gens.trans x.gens, y.os.trans x.os, y.hx, fun p hp => ?_, fun q hq => ?_⟩
  · refine y.keep a o (fun p hp' q => ?_) (x.keep a o hp e)
    rcases x.src p hp' with ⟨q', hq', e'⟩ | e'
    · exact hp q' hq' (e'.trans q)
    · rw [q, e] at e'; cases e'
  · rcases y.new a o e with e | e
    · exact x.new a o e
    · exact .inr (back a e)
  · rcases y.src p hp with ⟨q, hq, e⟩ | e
    · rcases x.src q hq with ⟨q', hq', e'⟩ | e'
      · exact .inl ⟨q', hq', e'.trans e⟩
      · exact .inr (e ▸ e')
    · exact .inr (back _ e)
  · obtain ⟨p, hp, e⟩ := x.all q hq
    obtain ⟨p', hp', e'⟩ := y.all p hp
    exact ⟨p', hp', e'.trans e⟩
theorem GrX.set {G : Gs} {X X1 X2 : Xs} {s : Shared} {N : Lg} {a : Addr} {o o' : Obj} {h' : Heap} {tk : Nat} (ok : Ok G s N) (h : Hx X s N) (hX : X = X1 ++ (a, o) :: X2) (hd : ∀ p ∈ X1 ++ X2, p.1 ≠ a) (ho : h'.get? a = some o') (hs : ∀ b, b ≠ a → h'.get? b = s.heap.get? b) (hn : ∀ v, o'.data ≠ .cell v) :
    GrX X (X1 ++ (a, o') :: X2) s N { s with heap := h', toks := tk } N := by
  subst hX
  have ha : (a, o) ∈ X1 ++ (a, o) :: X2 := List.mem_append_right _ (.head _)
  have hmem : ∀ p ∈ X1 ++ (a, o') :: X2, p = (a, o') ∨ (p ∈ X1 ++ (a, o) :: X2 ∧ p.1 ≠ a) := fun p hp => by
    rcases List.mem_append.mp hp with hp | hp
    · exact .inr ⟨List.mem_append_left _ hp, hd p (List.mem_append_left _ hp)⟩
    · rcases List.mem_cons.mp hp with hp | hp
      · exact .inl hp
      · exact .inr ⟨List.mem_append_right _ (.tail _ hp), hd p (List.mem_append_right _ hp)⟩
  refine ⟨fun b q hb e => (hs b fun e' => hb _ ha e'.symm).trans e, fun _ _ e => e, fun _ _ e => .inl e, fun b q e => (hs b fun e' => h.out _ ha q (e' ▸ e)).trans (ok.hold b q e), rfl, rfl, ⟨fun p hp => ?_, fun p hp => ?_, fun p hp => ?_⟩, fun p hp => ?_, fun q hq => ?_⟩
  · rcases hmem p hp with rfl | ⟨h1, h2⟩
    · exact ho
    · exact (hs _ h2).trans (h.at_ p h1)
  · rcases hmem p hp with rfl | ⟨h1, h2⟩
    · exact fun q => h.out (a, o) ha q
    · exact h.out p h1
  · rcases hmem p hp with rfl | ⟨h1, h2⟩
    · exact hn
    · exact h.nc p h1
  · rcases hmem p hp with rfl | ⟨h1, h2⟩
    · exact .inl ⟨_, ha, rfl⟩
    · exact .inl ⟨p, h1, rfl⟩
  · rcases List.mem_append.mp hq with hq | hq
    · exact ⟨q, List.mem_append_left _ hq, rfl⟩
    · rcases List.mem_cons.mp hq with rfl | hq
      · exact ⟨(a, o'), List.mem_append_right _ (.head _), rfl⟩
      · exact ⟨q, List.mem_append_right _ (.tail _ hq), rfl⟩

section
variable {G : Gs} {n : Nat} {A : Around} {sc : Scope} {on : List Str} {B : Bse} {cx : Cx} {env : Env} {s : Shared} {N : Lg}
theorem Fs.reX {Z Z' : Xs} {s₀ : Shared} {N₀ : Lg} (F : Fs G sc on ⟨Z, s₀, N₀⟩ cx env s N) (h : ∀ p, p ∈ Z' ↔ p ∈ Z) : Fs G sc on ⟨Z', s₀, N₀⟩ cx env s N :=
  { F with keep := fun a o hp e => F.keep a o (fun p h1 => hp p ((h p).mpr h1)) e, ext := fun p hp => F.ext p ((h p).mp hp), lists := let ⟨al, h1, h2⟩ := F.lists; ⟨al, fun x ds hx => let ⟨vs, a, b, c, d, e, f⟩ := h1 x ds hx; ⟨vs, a, b, c, d, e, fun p hp => f p ((h p).mp hp)⟩, h2⟩ }
theorem Fs.rebase {Z : Xs} {s₀ : Shared} {N₀ : Lg} (F : Fs G sc on ⟨Z, s₀, N₀⟩ cx env s N) : Fs G sc on ⟨Z, s₀, N⟩ cx env s N ∧ Bse.Le ⟨Z, s₀, N₀⟩ ⟨Z, s₀, N⟩ :=
  ⟨{ F with le := fun _ _ e => e, new := fun _ _ e => .inl e }, ⟨rfl, fun p hp => .inl ⟨p, hp, rfl⟩, F.le, F.new⟩⟩
theorem Fs.grx {Z Z' X X' : Xs} {s₀ : Shared} {N₀ : Lg} {s' : Shared} {N' : Lg} (F : Fs G sc on ⟨Z, s₀, N₀⟩ cx env s N) (g : GrX X X' s N s' N') (hs : ∀ p ∈ X, p ∈ Z) (nc : ∀ p ∈ X, ∀ v, p.2.data ≠ .cell v)
    (h1 : ∀ p ∈ Z', p ∈ X' ∨ (p ∈ Z ∧ ∀ q ∈ X, q.1 ≠ p.1)) (h2 : ∀ p ∈ Z, ∃ q ∈ Z', q.1 = p.1) (h3 : ∀ p ∈ X', p ∈ Z') : Fs G sc on ⟨Z', s₀, N₀⟩ cx env s' N' := by
  have kN : ∀ {a : Addr} {o : Obj}, s.heap.get? a = some o → (∀ o, ¬ N a o) → ∀ o, ¬ N' a o := fun ha hn => not_new' g.new ha hn
  have xL : ∀ p ∈ X, p.1 ≠ env.locals := fun p hp => (F.ext p (hs p hp)).2.2.1
  have xc : ∀ {c : Addr} {v}, s.heap.IsCell c v → ∀ p ∈ X, p.1 ≠ c := fun {c v} hc p hp q => by
    obtain ⟨o, e, r⟩ := hc
    have := (F.ext p (hs p hp)).1
    rw [q, e] at this; cases this
    exact nc p hp _ r
  have kns : ∀ {m}, s.heap.Ns env.locals m → s'.heap.Ns env.locals m := fun ⟨o, es, ep, e, r⟩ => ⟨o, es, ep, g.keep _ _ xL e, r⟩
  have hsee : ∀ x v, Sees s.heap env x v → Sees s'.heap env x v := fun x v ⟨n, z⟩ => by
    rcases z with ⟨a, m, b, c⟩ | ⟨a, c, b, d⟩
    · exact ⟨n, .inl ⟨a, m, kns b, c⟩⟩
    · have hc := xc d
      obtain ⟨o, e, r⟩ := d
      exact ⟨n, .inr ⟨a, c, b, ⟨o, g.keep _ _ hc e, r⟩⟩⟩
  obtain ⟨al, l1, l2⟩ := F.lists
  have kl : ∀ x ds, (x, Ent.lst ds) ∈ cx → ∀ vs, LstAt s.heap (al x) vs → LstAt s'.heap (al x) vs := fun x ds hx vs ⟨o, q, r⟩ => by
    obtain ⟨_, _, _, _, _, _, f⟩ := l1 x ds hx
    exact ⟨o, g.keep _ _ (fun p hp => f p (hs p hp)) q, r⟩
  refine { tp := fun a o e => g.le a o (F.tp a o e), hold := g.hold, envOk := F.envOk, vars := fun x t hx => ?_, keep := fun a o h e => ?_, le := fun a o e => g.le a o (F.le a o e), new := fun a o e => ?_, gens := g.gens.trans F.gens, os := g.os.trans F.os, loc := ?_, L0 := F.L0, LN := ?_, cells := ?_, apart := F.apart, ext := fun p hp => ?_, lists := ⟨al, fun x ds hx => ?_, l2⟩ }
  · have z := F.vars x t hx
    cases t with
    | imm d => obtain ⟨v, p, q⟩ := z; exact ⟨v, hsee x v p, q.mono g.le⟩
    | lst ds =>
      obtain ⟨b, vs, p, q, r⟩ := z
      obtain ⟨vs', p', _⟩ := l1 x ds hx
      have hb' : Value.ref b = .ref (al x) := p.uniq p'
      cases hb'
      exact ⟨_, vs, hsee x _ p, kl x ds hx _ q, r.mono g.le⟩
  · have hZ : ∀ p ∈ Z, p.1 ≠ a := fun p hp q => by obtain ⟨q', hq', e'⟩ := h2 p hp; exact h q' hq' (e'.trans q)
    exact g.keep a o (fun p hp => hZ p (hs p hp)) (F.keep a o hZ e)
  · rcases g.new a o e with e | e
    · exact F.new a o e
    · by_cases hp : ∀ p ∈ Z, p.1 ≠ a
      · right
        cases q : s₀.heap.get? a with
        | none => rfl
        | some o' => rw [F.keep a o' hp q] at e; cases e
      · have ⟨p, hp1, hp2⟩ : ∃ p ∈ Z, p.1 = a := Classical.byContradiction fun h => hp fun p h1 h2 => h ⟨p, h1, h2⟩
        have := (F.ext p hp1).1
        rw [hp2, e] at this; cases this
  · obtain ⟨m, h⟩ := F.loc; exact ⟨m, kns h⟩
  · obtain ⟨m, o, es, ep, h, _⟩ := F.loc; exact kN h F.LN
  · intro x hx
    obtain ⟨c, v, a, hc, b, d⟩ := F.cells x hx
    have hcx := xc hc
    obtain ⟨o, e, r⟩ := hc
    exact ⟨c, v, a, ⟨o, g.keep _ _ hcx e, r⟩, b, kN e d⟩
  · rcases h1 p hp with hx | ⟨hx, hq⟩
    · refine ⟨g.hx.at_ p hx, g.hx.out p hx, fun e => ?_, fun x hx' e => ?_⟩
      · rcases g.src p hx with ⟨q, hq, e'⟩ | e'
        · exact xL q hq (e'.trans e)
        · obtain ⟨m, o, es, ep, h, _⟩ := F.loc; rw [e, h] at e'; cases e'
      · obtain ⟨c, v, a, hc, _⟩ := F.cells x hx'
        rw [a] at e; cases e
        rcases g.src p hx with ⟨q, hq, e'⟩ | e'
        · exact xc hc q hq e'
        · obtain ⟨o, h, _⟩ := hc; rw [h] at e'; cases e'
    · have z := F.ext p hx
      exact ⟨g.keep _ _ hq z.1, kN z.1 z.2.1, z.2.2⟩
  · obtain ⟨vs, a, hl, c, d, e, f⟩ := l1 x ds hx
    have hl' := kl x ds hx _ hl
    obtain ⟨o, ho, _⟩ := hl
    refine ⟨vs, hsee x _ a, hl', c.mono g.le, d, kN ho e, fun p hp q => ?_⟩
    rcases h1 p hp with hx' | ⟨hx', _⟩
    · rcases g.src p hx' with ⟨q', hq', e'⟩ | e'
      · exact f q' (hs q' hq') (e'.trans q)
      · rw [q, ho] at e'; cases e'
    · exact f p hx' q
end
noncomputable abbrev eraseS (s : Shared) (X : Xs) : Shared := { s with heap := eraseH s.heap (X.map (·.1)) }
theorem eraseS_get {s : Shared} {X : Xs} {a : Addr} : (eraseS s X).heap.get? a = if a ∈ X.map (·.1) then none else s.heap.get? a := eraseH_get _ _ _
set_option tactic.hygienic true in
theorem eraseS_of {s : Shared} {X : Xs} {a : Addr} {o : Obj} (h : (eraseS s X).heap.get? a = some o) : (∀ p ∈ X, p.1 ≠ a) ∧ s.heap.get? a = some o := by
  rw [eraseS_get] at h
  split at h
  · cases h
  · rename_i hn
    exact ⟨fun p hp e => hn (List.mem_map.mpr ⟨p, hp, e⟩), h⟩
theorem eraseS_to {s : Shared} {X : Xs} {a : Addr} {o : Obj} (hn : ∀ p ∈ X, p.1 ≠ a) (h : s.heap.get? a = some o) : (eraseS s X).heap.get? a = some o := by
  rw [eraseS_get, if_neg fun hm => ?_]
  · exact h
  · obtain ⟨p, hp, e⟩ := List.mem_map.mp hm; exact hn p hp e
theorem eraseS_none {s : Shared} {X : Xs} {a : Addr} (h : s.heap.get? a = none) : (eraseS s X).heap.get? a = none := by
  rw [eraseS_get]; split
  · rfl
  · exact h
theorem eraseS_in {s : Shared} {X : Xs} {p : Addr × Obj} (hp : p ∈ X) : (eraseS s X).heap.get? p.1 = none := by
  rw [eraseS_get, if_pos (List.mem_map.mpr ⟨p, hp, rfl⟩)]
section
variable {G : Gs} {n : Nat} {A : Around} {sc : Scope} {on : List Str} {B : Bse} {cx : Cx} {env : Env} {s : Shared} {N : Lg}
theorem Fs.takeX {X : Xs} (F : Fs G sc on ⟨[], s, N⟩ cx env s₁ N₁) (hx : Hx X s N) (ok : Ok G s N) (hl : ∀ x ds, (x, Ent.lst ds) ∉ cx) : Fs G sc on ⟨X, eraseS s X, N⟩ cx env s₁ N₁ := by
  have hlt : ∀ p ∈ X, p.1 ≠ env.locals := fun p hp e => by have := hx.at_ p hp; rw [e, F.L0] at this; cases this
  refine { F with keep := fun a o h e => F.keep a o (fun _ h => (nomatch h)) (eraseS_of e).2, new := fun a o e => (F.new a o e).imp id fun e => eraseS_none e, L0 := eraseS_none F.L0, cells := fun x hx => let ⟨c, v, a, b, d, e⟩ := F.cells x hx; ⟨c, v, a, b, eraseS_none d, e⟩, ext := fun p hp => ⟨F.keep _ _ (fun _ h => (nomatch h)) (hx.at_ p hp), fun o e => ?_, hlt p hp, fun x hx' e => ?_⟩, lists := ⟨fun _ => 0, fun x ds h => absurd h (hl x ds), fun x y ds es h => absurd h (hl x ds)⟩ }
  · rcases F.new p.1 o e with e | e
    · exact hx.out p hp o e
    · have := hx.at_ p hp; have e' : s.heap.get? p.1 = none := e; rw [e'] at this; cases this
  · obtain ⟨c, v, a, _, d, _⟩ := F.cells x hx'
    rw [a] at e; cases e
    have := hx.at_ p hp; have d' : s.heap.get? p.1 = none := d; rw [d'] at this; cases this
theorem Fs.toGrX {s₀ : Shared} {N₀ : Lg} {X X' Y' : Xs} {N₁ : Lg} (F : Fs G sc on ⟨X' ++ Y', eraseS s₀ X, N₁⟩ cx env s N) (hB : Bse.Le ⟨X, eraseS s₀ X, N₀⟩ ⟨X' ++ Y', eraseS s₀ X, N₁⟩) (hx : Hx X s₀ N₀) (nc : ∀ p ∈ X', ∀ v, p.2.data ≠ .cell v) (hall : AllX X X') : GrX X X' s₀ N₀ s N := by
  have back : ∀ a, (∀ p ∈ X, p.1 ≠ a) → (eraseS s₀ X).heap.get? a = none → s₀.heap.get? a = none := fun a h e => by
    cases q : s₀.heap.get? a with
    | none => rfl
    | some o => rw [eraseS_to h q] at e; cases e
  refine ⟨fun a o h e => F.keep a o (fun p hp q => ?_) (eraseS_to h e), fun a o e => F.le a o (hB.le a o e), fun a o e => ?_, F.hold, F.gens, F.os, ⟨fun p hp => (F.ext p (List.mem_append_left _ hp)).1, fun p hp => (F.ext p (List.mem_append_left _ hp)).2.1, nc⟩, fun p hp => ?_, hall⟩
  · rcases hB.x p hp with ⟨q', hq', e'⟩ | e'
    · exact h q' hq' (e'.trans q)
    · have e'' : (eraseS s₀ X).heap.get? p.1 = none := e'
      rw [q, eraseS_to h e] at e''; cases e''
  · have hn : N₀ a o ∨ (eraseS s₀ X).heap.get? a = none := by
      rcases F.new a o e with e | e
      · exact hB.new a o e
      · exact .inr e
    rcases hn with e' | e'
    · exact .inl e'
    · by_cases h : ∀ p ∈ X, p.1 ≠ a
      · exact .inr (back a h e')
      · have ⟨p, hp1, hp2⟩ : ∃ p ∈ X, p.1 = a := Classical.byContradiction fun h' => h fun p h1 h2 => h' ⟨p, h1, h2⟩
        obtain ⟨p', hp', e2⟩ := hall p hp1
        exact absurd e (by rw [← hp2, ← e2]; exact (F.ext p' (List.mem_append_left _ hp')).2.1 o)
  · rcases hB.x p (List.mem_append_left _ hp) with h | e
    · exact .inl h
    · by_cases h : ∀ q ∈ X, q.1 ≠ p.1
      · exact .inr (back _ h e)
      · have ⟨q, hq1, hq2⟩ : ∃ q ∈ X, q.1 = p.1 := Classical.byContradiction fun h' => h fun p h1 h2 => h' ⟨p, h1, h2⟩
        exact .inl ⟨q, hq1, hq2⟩
end
end Mine
end
section
set_option tactic.hygienic false
open PySem PySem.W PyProof.Rows
namespace Mine
noncomputable def Lg.fz (N : Lg) (X : Xs) : Lg := fun a o => N a o ∨ (a, o) ∈ X
noncomputable def Lg.uf (N : Lg) (X : Xs) : Lg := fun a o => N a o ∧ ∀ p ∈ X, p.1 ≠ a
section
variable {G : Gs} {n : Nat} {A : Around} {sc : Scope} {on : List Str} {B : Bse} {cx : Cx} {env : Env} {s : Shared} {N : Lg} {X : Xs}
theorem Ok.fz (ok : Ok G s N) (hx : Hx X s N) : Ok G s (N.fz X) := ⟨fun a o e => .inl (ok.tp a o e), fun a o e => e.elim (ok.hold a o) fun e => hx.at_ _ e⟩
theorem Vw.fz (z : Vw G sc cx env s N) (hx : Hx X s N) : Vw G sc cx env s (N.fz X) :=
  { z.toOk.fz hx with envOk := z.envOk, vars := fun x t h => (z.vars x t h).keeps (fun _ _ e => e) fun _ _ e => .inl e }
theorem Gr.uf {s1 : Shared} {N1 : Lg} (g : Gr s (N.fz X) s1 N1) (hx : Hx X s N) : Gr s N s1 (N1.uf X) :=
  ⟨g.keep, fun a o e => ⟨g.le a o (.inl e), fun p hp q => hx.out p hp o (q ▸ e)⟩, fun a o e => (g.new a o e.1).elim (fun h => h.elim .inl fun h => absurd rfl (e.2 _ h)) .inr, fun a o e => g.hold a o e.1, g.gens, g.os⟩
noncomputable def D.flat : D → Bool
  | .none => true
  | .bool _ => true
  | .int _ => true
  | .str _ => true
  | .ref _ => true
  | _ => false
theorem Rp.flat {N N' : Lg} {v : Value} {d : D} (h : d.flat = true) (r : Rp N v d) : Rp N' v d := by
  cases r with
  | none => exact .none
  | bool b => exact .bool b
  | int i t => exact .int i t
  | str x t => exact .str x t
  | ref a => exact .ref a
  | list => simp [D.flat] at h
  | tuple => simp [D.flat] at h
  | obj => simp [D.flat] at h

structure Wd where
  P : Lg → Xs → Prop
  mono : ∀ {N N' : Lg} {X : Xs}, (∀ a o, N a o → N' a o) → P N X → P N' X
structure WX (W : Wd) (N : Lg) (X Y : Xs) : Prop where
  p : W.P N X
  nc : ∀ p ∈ X, ∀ v, p.2.data ≠ .cell v
  ap : ∀ p ∈ X, ∀ q ∈ Y, p.1 ≠ q.1
theorem WX.hx {W : Wd} {N₁ : Lg} {Y : Xs} {s₀ : Shared} (w : WX W N₁ X Y) (F : Fs G sc on ⟨X ++ Y, s₀, N₁⟩ cx env s N) : Hx X s N :=
  ⟨fun p hp => (F.ext p (List.mem_append_left _ hp)).1, fun p hp => (F.ext p (List.mem_append_left _ hp)).2.1, w.nc⟩
theorem WX.now {W : Wd} {N₁ : Lg} {Y : Xs} {s₀ : Shared} (w : WX W N₁ X Y) (F : Fs G sc on ⟨X ++ Y, s₀, N₁⟩ cx env s N) : W.P N X := W.mono F.le w.p
structure EvX (G : Gs) (n : Nat) (sc : Scope) (cx : Cx) (W : Wd) (e : Expr) (W' : Wd) (d : D) : Prop where
  go : ∀ A env s N X, Rm A n → Vw G sc cx env s N → Hx X s N → W.P N X → ∀ (Q : Value → Shared → Prop) (E : Value → Shared → Prop), (∀ v s' N' X', GrX X X' s N s' N' → W'.P N' X' → Rp N' v d → Q v s') → wpAny G.M A (eval e env) Q E s
structure FnX (G : Gs) (n : Nat) (f : Value) (args : List D) (W W' : Wd) (d : D) : Prop where
  go : ∀ A s N vs X, Rm A n → Ok G s N → Hx X s N → W.P N X → Rps N vs args → ∀ (Q : Value → Shared → Prop) (E : Value → Shared → Prop), (∀ v s' N' X', GrX X X' s N s' N' → W'.P N' X' → Rp N' v d → Q v s') → wpAny G.M A (call f vs) Q E s
structure EvTX (G : Gs) (n : Nat) (sc : Scope) (cx : Cx) (W : Wd) (e : Expr) (b : Bool) : Prop where
  go : ∀ A env s N X, Rm A n → Vw G sc cx env s N → Hx X s N → W.P N X → ∀ (Q : Bool → Shared → Prop) (E : Value → Shared → Prop), (∀ s' N', Gr s N s' N' → Q b s') → wpAny G.M A (isTrue e env (eval e env)) Q E s
theorem EvX.pure {W : Wd} {e : Expr} {d : D} (h : Ev G n sc cx e d) : EvX G n sc cx W e W d :=
  ⟨fun A env s N X rm z hx hw Q E k => (h.go A env s N rm z).go _ _ fun v s1 N1 g r => k v s1 N1 X (g.x hx) (W.mono g.le hw) r⟩
theorem EvTX.pure {W : Wd} {e : Expr} {b : Bool} (h : EvT G n sc cx e b) : EvTX G n sc cx W e b :=
  ⟨fun A env s N X rm z hx hw Q E k => (h.go A env s N rm z).go _ _ fun s1 N1 g => k s1 N1 g⟩
structure EvR (G : Gs) (n : Nat) (sc : Scope) (cx : Cx) (W : Wd) (e : Expr) (d : D) : Prop where
  go : ∀ A env s N X, Rm A n → Vw G sc cx env s N → Hx X s N → W.P N X → ∀ (Q : Value → Shared → Prop) (E : Value → Shared → Prop), (∀ v s' N', Gr s N s' N' → Rp N' v d → Q v s') → wpAny G.M A (eval e env) Q E s
theorem EvR.x {W : Wd} {e : Expr} {d : D} (h : EvR G n sc cx W e d) : EvX G n sc cx W e W d :=
  ⟨fun A env s N X rm z hx hw Q E k => h.go A env s N X rm z hx hw Q E fun v s1 N1 g r => k v s1 N1 X (g.x hx) (W.mono g.le hw) r⟩
noncomputable def Seen (W : Wd) (cx cx' : Cx) : Prop := ∀ N X, W.P N X → ∀ x t, (x, t) ∈ cx' → (x, t) ∈ cx ∨ ∃ a d, t = .imm d ∧ (x, .imm (.ref a)) ∈ cx ∧ Rp (N.fz X) (.ref a) d
theorem Seen.vw {W : Wd} {cx' : Cx} (h : Seen W cx cx') (z : Vw G sc cx env s N) (hx : Hx X s N) (hw : W.P N X) : Vw G sc cx' env s (N.fz X) := by
  refine { z.toOk.fz hx with envOk := z.envOk, vars := fun x t hm => ?_ }
  rcases h N X hw x t hm with h | ⟨a, d, rfl, h1, h2⟩
  · exact (z.vars x t h).keeps (fun _ _ e => e) fun _ _ e => .inl e
  · obtain ⟨v, q, r⟩ := z.vars _ _ h1
    cases r
    exact ⟨_, q, h2⟩
theorem EvR.read {W : Wd} {cx' : Cx} {e : Expr} {d : D} (hs : Seen W cx cx') (h : Ev G n sc cx' e d) (hf : d.flat = true) : EvR G n sc cx W e d :=
  ⟨fun A env s N X rm z hx hw Q E k => (h.go A env s _ rm (hs.vw z hx hw)).go _ _ fun v s1 N1 g r => k v s1 _ (g.uf hx) (r.flat hf)⟩
theorem EvTX.read {W : Wd} {cx' : Cx} {e : Expr} {b : Bool} (hs : Seen W cx cx') (h : EvT G n sc cx' e b) : EvTX G n sc cx W e b :=
  ⟨fun A env s N X rm z hx hw Q E k => (h.go A env s _ rm (hs.vw z hx hw)).go _ _ fun s1 N1 g => k s1 _ (g.uf hx)⟩
theorem EvTX.or2 {W : Wd} {l r : Expr} {p : Pos} {b c : Bool} (hl : EvTX G n sc cx W l b) (hr : b = false → EvTX G n sc cx W r c) : EvTX G n sc cx W (.BoolOp .Or [l, r] p) (b || c) := by
  refine ⟨fun A env s N X rm z hx hw Q E k => ?_⟩
  with_reducible refine wpAny_isTrue_BoolOp (wpAny_allTrue_Or_cons (hl.go A env s N X rm z hx hw _ _ fun s1 N1 g1 => ?_))
  cases b with
  | true => exact k _ _ g1
  | false =>
    show wpAny _ _ _ _ _ _
    with_reducible refine wpAny_allTrue_Or_cons ((hr rfl).go A env s1 N1 X rm (z.gr g1) (hx.gr g1) (W.mono g1.le hw) _ _ fun s2 N2 g2 => ?_)
    cases c with
    | true => exact k _ _ (g1.trans g2)
    | false => exact wpAny_allTrue_Or_nil (k _ _ (g1.trans g2))

noncomputable def FlowIs (N : Lg) (d : D) : Flow → Prop
  | .ret v => Rp N v d
  | .next => d = .none
  | _ => False
structure BodyX (G : Gs) (n : Nat) (fd : FuncData) (body : List Stmt) (cx : Cx) (W W' : Wd) (d : D) : Prop where
  go : ∀ A env s₀ N₀ X Y s N, Rm A n → WX W N₀ X Y → Fs G fd.scope (ownNames fd.scope) ⟨X ++ Y, s₀, N₀⟩ cx env s N → ∀ (Q : Flow → Shared → Prop) (E : Value → Shared → Prop),
    (∀ f s' N' N₁ X' Y' sc' on' cx', WX W' N₁ X' Y' → AllX X X' → Bse.Le ⟨X ++ Y, s₀, N₀⟩ ⟨X' ++ Y', s₀, N₁⟩ → Fs G sc' on' ⟨X' ++ Y', s₀, N₁⟩ cx' env s' N' → FlowIs N' d f → Q f s') → Wp G A (execs body env) Q E s
theorem cxOf_imm : ∀ {ps : List Str} {ds : List D} {x : Str} {es : List D}, (x, Ent.lst es) ∉ cxOf ps ds
  | [], ds, x, es, h => by cases ds <;> cases h
  | p :: ps, [], x, es, h => by cases h
  | p :: ps, d :: ds, x, es, h => by
    rcases List.mem_cons.mp h with e | h
    · cases e
    · exact cxOf_imm h
structure FnXC (G : Gs) (n : Nat) (f : Value) (args : List D) (W W' : Wd) (d : D) : Prop where
  go : ∀ A s N vs X, Rm A n → Ok G s N → Hx X s N → W.P N X → Rps N vs args → ∀ (Q : Value → Shared → Prop) (E : Value → Shared → Prop), (∀ v s' N' X', GrX X X' s N s' N' → W'.P N' X' → Rp N' v d → Q v s') → codeAny G.M A (.call f ⟨vs, []⟩) (fun r s' => match r with | .ok (.ret v) => Q v s' | .ok _ => False | .error e => E e s') s
theorem FnXC.x {f : Value} {args : List D} {W W' : Wd} {d : D} (h : FnXC G n f args W W' d) : FnX G n f args W W' d :=
  ⟨fun A s N vs X rm ok hx hw hr Q E k => wpAny_call (h.go A s N vs X rm ok hx hw hr Q E k)⟩
theorem FnXC.of {a : Addr} {fd : FuncData} {body : List Stmt} {ps : List Str} {args : List D} {W W' : Wd} {d : D} (hf : FnAt G.base a fd) (hbody : fd.body = .stmts body)
    (hbind : ∀ vs : List Value, vs.length = args.length → bindArgs fd ⟨vs, []⟩ = Pure.pure (ps.zip vs)) (hclo : fd.closure = []) (hg : fd.globals = mainGlobals) (hb : fd.builtins = builtinsNs) (hps : parsOk fd.scope ps = true)
    (hco : fd.scope.isCoroutine = false) (hgen : fd.scope.isGenerator = false) (hk : fd.scope.kind = .function)
    (h : BodyX G n fd body (cxOf ps args) W W' d) : FnXC G (n + 1) (.ref a) args W W' d := by
  refine ⟨fun A s N vs X rm ok hx hw hr Q E k => ?_⟩
  refine call_fnC (n := n) (Q := Q) (E := E) (E' := fun _ _ _ => False) hf hbody (hbind vs hr.length) hclo hg hb hps hco hgen hk rm ok hr (fun _ _ _ z => z.elim) fun env s1 he rm' F => ?_
  have F' := F.takeX hx ok fun x ds => cxOf_imm
  have F2 : Fs G fd.scope (ownNames fd.scope) ⟨X ++ [], eraseS s X, N⟩ (cxOf ps args) env s1 N := by rw [List.append_nil]; exact F'
  refine h.go _ env _ N X [] s1 N rm' ⟨hw, hx.nc, fun _ _ _ h => (nomatch h)⟩ F2 _ _ fun f s' N' N₁ X' Y' _ _ _ hw' hall hB F' r => ?_
  have hB' : Bse.Le ⟨X, eraseS s X, N⟩ ⟨X' ++ Y', eraseS s X, N₁⟩ := by rw [List.append_nil] at hB; exact hB
  have gx := F'.toGrX hB' hx hw'.nc hall
  cases f with
  | ret v => exact k v s' N' X' gx (W'.mono F'.le hw'.p) r
  | next => have r' : d = .none := r; subst r'; exact k .none s' N' X' gx (W'.mono F'.le hw'.p) .none
  | _ => exact r.elim

variable {Q : Flow → Shared → Prop} {E : Value → Shared → Prop} {rest : List Stmt} {Y : Xs} {s₀ : Shared} {N₁ : Lg} {W W' : Wd} {cx0 : Cx}
theorem WX.step {X' : Xs} {s' : Shared} {N' : Lg} (w : WX W N₁ X Y) (F : Fs G sc on ⟨X ++ Y, s₀, N₁⟩ cx env s N) (g : GrX X X' s N s' N') (hw : W'.P N' X') :
    WX W' N' X' Y ∧ AllX X X' ∧ Bse.Le ⟨X ++ Y, s₀, N₁⟩ ⟨X' ++ Y, s₀, N'⟩ ∧ Fs G sc on ⟨X' ++ Y, s₀, N'⟩ cx env s' N' := by
  have hY : ∀ q ∈ Y, s.heap.get? q.1 = some q.2 := fun q hq => (F.ext q (List.mem_append_right _ hq)).1
  have fresh : ∀ a, s.heap.get? a = none → (∀ p ∈ X ++ Y, p.1 ≠ a) → s₀.heap.get? a = none := fun a e h => by
    cases q : s₀.heap.get? a with
    | none => rfl
    | some o => rw [F.keep a o h q] at e; cases e
  have freshX : ∀ a, s.heap.get? a = none → ∀ p ∈ X ++ Y, p.1 ≠ a := fun a e p hp q => by have := (F.ext p hp).1; rw [q, e] at this; cases this
  have F1 : Fs G sc on ⟨X' ++ Y, s₀, N₁⟩ cx env s' N' := by
    refine F.grx (Z' := X' ++ Y) g (fun p hp => List.mem_append_left _ hp) w.nc (fun p hp => ?_) (fun p hp => ?_) (fun p hp => List.mem_append_left _ hp)
    · rcases List.mem_append.mp hp with hp | hp
      · exact .inl hp
      · exact .inr ⟨List.mem_append_right _ hp, fun q hq => w.ap q hq p hp⟩
    · rcases List.mem_append.mp hp with hp | hp
      · obtain ⟨q, hq, e⟩ := g.all p hp; exact ⟨q, List.mem_append_left _ hq, e⟩
      · exact ⟨p, List.mem_append_right _ hp, rfl⟩
  refine ⟨⟨hw, g.hx.nc, fun p hp q hq e => ?_⟩, g.all, ⟨rfl, fun p hp => ?_, fun a o e => F1.le a o e, fun a o e => F1.new a o e⟩, F1.rebase.1⟩
  · rcases g.src p hp with ⟨p', hp', e'⟩ | e'
    · exact w.ap p' hp' q hq (e'.trans e)
    · rw [e, hY q hq] at e'; cases e'
  · rcases List.mem_append.mp hp with hp | hp
    · rcases g.src p hp with ⟨p', hp', e'⟩ | e'
      · exact .inl ⟨p', List.mem_append_left _ hp', e'⟩
      · exact .inr (fresh _ e' (freshX _ e'))
    · exact .inl ⟨p, List.mem_append_right _ hp, rfl⟩
theorem exprX {e : Expr} {p : Pos} {d : D} (w : WX W N₁ X Y) (F : Fs G sc on ⟨X ++ Y, s₀, N₁⟩ cx env s N) (rm : Rm A n) (hsub : ∀ q ∈ cx0, q ∈ cx) (he : EvX G n sc cx0 W e W' d)
    (k : ∀ s' N' X', WX W' N' X' Y → AllX X X' → Bse.Le ⟨X ++ Y, s₀, N₁⟩ ⟨X' ++ Y, s₀, N'⟩ → Fs G sc on ⟨X' ++ Y, s₀, N'⟩ cx env s' N' → Wp G A (execs rest env) Q E s')
    (hw : ∀ line env, EnvOk sc env → swapsWith e none line env = Pure.pure false := by intro _ _ _; rfl) : Wp G A (execs (.Expr e p :: rest) env) Q E s := by
  refine wseq ⟨?_⟩
  have hi : interactive env = false := by unfold interactive; rw [F.fk]; rfl
  with_reducible refine wpAny_Expr_any ?_ hi (hw _ _ F.envOk)
  refine he.go A env s N X rm (F.sub hsub).toVw (w.hx F) (w.now F) _ _ fun v s' N' X' g hw' r => ?_
  obtain ⟨h1, h2, h3, h4⟩ := w.step F g hw'
  exact k s' N' X' h1 h2 h3 h4
theorem asgX {x : Str} {e : Expr} {p p' : Pos} {d : D} (w : WX W N₁ X Y) (F : Fs G sc on ⟨X ++ Y, s₀, N₁⟩ cx env s N) (rm : Rm A n) (hsub : ∀ q ∈ cx0, q ∈ cx) (he : EvX G n sc cx0 W e W' d) {cx' : Cx} (hsub' : ∀ q ∈ cx', q ∈ cx) (hx : canSt sc on cx' x = true)
    (k : ∀ s' N' X', WX W' N' X' Y → AllX X X' → Bse.Le ⟨X ++ Y, s₀, N₁⟩ ⟨X' ++ Y, s₀, N'⟩ → Fs G sc on ⟨X' ++ Y, s₀, N'⟩ ((x, .imm d) :: cx') env s' N' → Wp G A (execs rest env) Q E s')
    (hw : ∀ line env, EnvOk sc env → swapsWith e (some (Expr.Name x p)) line env = Pure.pure false := by intro _ _ _; rfl) : Wp G A (execs (.Assign [.Name x p] e p' :: rest) env) Q E s := by
  obtain ⟨i1, i2, i3⟩ := canSt.all hx
  refine wseq ⟨?_⟩
  with_reducible refine wpAny_Assign_Name (he.go A env s N X rm (F.sub hsub).toVw (w.hx F) (w.now F) _ _ fun v s' N' X' g hw' r => ?_) (hw _ _ F.envOk)
  obtain ⟨h1, h2, h3, h4⟩ := w.step F g hw'
  exact (h4.sub hsub').store i2 i1 i3 r fun s2 F2 => k s2 N' X' h1 h2 h3 F2
theorem retX {e : Expr} {p : Pos} {d : D} (w : WX W N₁ X Y) (F : Fs G sc on ⟨X ++ Y, s₀, N₁⟩ cx env s N) (rm : Rm A n) (hsub : ∀ q ∈ cx0, q ∈ cx) (he : EvX G n sc cx0 W e W' d)
    (k : ∀ v s' N' X', WX W' N' X' Y → AllX X X' → Bse.Le ⟨X ++ Y, s₀, N₁⟩ ⟨X' ++ Y, s₀, N'⟩ → Fs G sc on ⟨X' ++ Y, s₀, N'⟩ cx env s' N' → Rp N' v d → Q (.ret v) s') : Wp G A (execs (.Return (some e) p :: rest) env) Q E s := by
  refine wseq ⟨?_⟩
  with_reducible refine wpAny_Return_some (he.go A env s N X rm (F.sub hsub).toVw (w.hx F) (w.now F) _ _ fun v s' N' X' g hw' r => ?_)
  obtain ⟨h1, h2, h3, h4⟩ := w.step F g hw'
  exact k v s' N' X' h1 h2 h3 h4 r
theorem ifX {t : Expr} {b1 b2 : List Stmt} {p : Pos} {b : Bool} (w : WX W N₁ X Y) (F : Fs G sc on ⟨X ++ Y, s₀, N₁⟩ cx env s N) (rm : Rm A n) (hsub : ∀ q ∈ cx0, q ∈ cx) (ht : EvTX G n sc cx0 W t b)
    (k1 : b = true → ∀ s' N', Fs G sc on ⟨X ++ Y, s₀, N₁⟩ cx env s' N' → Wp G A (execs b1 env) (SeqQ G A env rest Q E) E s')
    (k2 : b = false → ∀ s' N', Fs G sc on ⟨X ++ Y, s₀, N₁⟩ cx env s' N' → Wp G A (execs b2 env) (SeqQ G A env rest Q E) E s') : Wp G A (execs (.If t b1 b2 p :: rest) env) Q E s := by
  refine wseq ⟨?_⟩
  with_reducible refine wpAny_If (ht.go A env s N X rm (F.sub hsub).toVw (w.hx F) (w.now F) _ _ fun s1 N1 g1 => ?_)
  cases b with
  | true => exact (k1 rfl s1 N1 (F.gr g1)).go
  | false => exact (k2 rfl s1 N1 (F.gr g1)).go
end
end Mine
end
section
set_option tactic.hygienic false
open PySem PySem.W PyProof.Rows
namespace Mine
section
variable {G : Gs} {n : Nat} {A : Around} {sc : Scope} {on : List Str} {B : Bse} {cx : Cx} {env : Env} {s : Shared} {N : Lg} {X : Xs} {W W' W1 : Wd}
theorem EvX.call {f : Str} {p pos : Pos} {e : Expr} {es : List Expr} {ds : List D} {d : D} {a : Addr} {fd : FuncData} (hn : Nm G sc f (.ref a)) (hf : FnAt G.base a fd) (ha : EvL G n sc cx (e :: es) ds) (hc : FnX G n (.ref a) ds W W' d)
    (he : ∀ env, starEach (e :: es) env = (false, eval e env) :: starEach es env := by intro _; rfl) : EvX G n sc cx W (.Call (.Name f p) (e :: es) [] pos) W' d := by
  refine ⟨fun A env s N X rm z hx hw Q E k => ?_⟩
  obtain ⟨⟨o, ho, hd⟩, _⟩ := hf
  with_reducible refine wpAny_Call_NameR (hn.eval z (callWith_def (o := o) hd (ha.go A env s N pos rm z _ _ fun vs s1 N1 g1 r1 => ⟨(z.gr g1).toOk.at ho, ?_⟩) (he env)))
  exact hc.go A s1 N1 vs X rm (z.gr g1).toOk (hx.gr g1) (W.mono g1.le hw) r1 Q E fun v s2 N2 X' g2 hw' r2 => k v s2 N2 X' ((g1.x hx).trans g2 hx) hw' r2
structure HasI (W : Wd) (x C : Addr) (no : List Str) : Prop where
  go : ∀ N X, W.P N X → ∃ dx o od m n, N x o ∧ (o.cls = .ref C ∧ o.dict = some dx ∧ o.data = .plain) ∧ (dx, od) ∈ X ∧ DK od m n ∧ ∀ y ∈ no, m y = none
theorem EvX.meth0 {pl : Env → Sem Bool} {e : Expr} {name : Str} {apos pos : Pos} {x C f : Addr} {no : List Str} {d : D} (he : Ev G n sc cx e (.ref x)) (ok : methOk G.K C name f = true) (hi : HasI W x C no) (hn : name ∈ no) (hc : FnX G n (.ref f) [.ref x] W W' d)
    (hb : ∀ env, eval (.Call (.Attribute e name apos) [] [] pos) env = (do
      let ov ← eval e env
      standAt apos.atName
      let (f, first) ← holding [ov] (getMethod ov name (pl env))
      callWith pos f first (backTo pos (starEach [] env)) (backToKw pos (keywordEach [] env))) := by intro _; rfl) : EvX G n sc cx W (.Call (.Attribute e name apos) [] [] pos) W' d := by
  refine ⟨fun A env s N X rm z hx hw Q E k => ?_⟩
  with_reducible refine methodCall_KW ((he.go A env s N rm z).go _ _ fun v s1 N1 g1 r1 => ?_) (hb env)
  have ok1 := (z.gr g1).toOk
  have hx1 := hx.gr g1
  have hw1 := W.mono g1.le hw
  obtain ⟨dx, o, od, m, nn, h1, h2, h3, h4, h5⟩ := hi.go _ _ hw1
  refine r1.eRef ?_
  have hk : keepIn G.K (.ref f) = true := by simp only [methOk, Bool.and_eq_true] at ok; exact ok.2
  have hq := hc.go A s1 N1 [.ref x] X rm ok1 hx1 hw1 (.one (.ref x)) Q E fun v s2 N2 X' g2 hw' r2 => k v s2 N2 X' ((g1.x hx).trans g2 hx) hw' r2
  with_reducible refine meth_of ok1.frag (ok1.hold _ _ h1) h2 (hx1.at_ _ h3) h4 (h5 _ hn) ok ?_
  exact callWith_K0 ok1.frag hk hq
theorem EvX.meth1 {pl : Env → Sem Bool} {e a : Expr} {name : Str} {apos pos : Pos} {x C f : Addr} {no : List Str} {d1 d : D} (he : Ev G n sc cx e (.ref x)) (ok : methOk G.K C name f = true) (hi : HasI W x C no) (hn : name ∈ no) (ha : EvX G n sc cx W a W1 d1) (hc : FnX G n (.ref f) [.ref x, d1] W1 W' d)
    (hb : ∀ env, eval (.Call (.Attribute e name apos) [a] [] pos) env = (do
      let ov ← eval e env
      standAt apos.atName
      let (f, first) ← holding [ov] (getMethod ov name (pl env))
      callWith pos f first (backTo pos (starEach [a] env)) (backToKw pos (keywordEach [] env))) := by intro _; rfl)
    (hs : ∀ env, starEach [a] env = (false, eval a env) :: starEach [] env := by intro _; rfl) : EvX G n sc cx W (.Call (.Attribute e name apos) [a] [] pos) W' d := by
  refine ⟨fun A env s N X rm z hx hw Q E k => ?_⟩
  with_reducible refine methodCall_KW ((he.go A env s N rm z).go _ _ fun v s1 N1 g1 r1 => ?_) (hb env)
  have ok1 := (z.gr g1).toOk
  have hx1 := hx.gr g1
  have hw1 := W.mono g1.le hw
  obtain ⟨dx, o, od, m, nn, h1, h2, h3, h4, h5⟩ := hi.go _ _ hw1
  refine r1.eRef ?_
  have hk : keepIn G.K (.ref f) = true := by simp only [methOk, Bool.and_eq_true] at ok; exact ok.2
  with_reducible refine meth_of ok1.frag (ok1.hold _ _ h1) h2 (hx1.at_ _ h3) h4 (h5 _ hn) ok ?_
  refine callWith_K ok1.frag hk ?_ (hs env) (by with_unfolding_all rfl)
  with_reducible refine args_cons (ha.go A env s1 N1 X rm (z.gr g1) hx1 hw1 _ _ fun v s2 N2 X2 g2 hw2 r2 => args_nil ?_) (hs env)
  have ok2 := g2.ok ok1
  exact ⟨ok2.frag, hc.go A s2 N2 [.ref x, v] X2 rm ok2 g2.hx hw2 (.cons (.ref x) (.one r2)) Q E fun v s3 N3 X' g3 hw' r3 => k v s3 N3 X' (((g1.x hx).trans g2 hx).trans g3 hx) hw' r3⟩
structure HasA (W : Wd) (x C : Addr) (name : Str) (d : D) : Prop where
  go : ∀ N X, W.P N X → ∃ dx o od m n v, N x o ∧ (o.cls = .ref C ∧ o.dict = some dx ∧ o.data = .plain) ∧ (dx, od) ∈ X ∧ DK od m n ∧ m name = some v ∧ Rp N v d
theorem EvR.attr {e : Expr} {name : Str} {p : Pos} {x C : Addr} {d : D} (he : Ev G n sc cx e (.ref x)) (ok : attrOk G.K C name = true) (ha : HasA W x C name d)
    (hb : ∀ env, eval (.Attribute e name p) env = (do
      let o ← eval e env
      standAt p.atName
      let r ← holding [o] (getAttr o name true)
      letTemporaryGo e o r
      Pure.pure r) := by intro _; rfl) : EvR G n sc cx W (.Attribute e name p) d := by
  refine ⟨fun A env s N X rm z hx hw Q E k => ?_⟩
  with_reducible refine Attribute_any_ ((he.go A env s N rm z).go _ _ fun v s1 N1 g1 r1 => ?_) (hb env)
  have ok1 := (z.gr g1).toOk
  have hx1 := hx.gr g1
  have hw1 := W.mono g1.le hw
  obtain ⟨dx, o, od, m, nn, v, h1, h2, h3, h4, h5, h6⟩ := ha.go _ _ hw1
  refine r1.eRef ?_
  exact get_own ok1.frag (ok1.hold _ _ h1) h2 (hx1.at_ _ h3) h4 ok h5 h6.handed (k _ _ N1 (g1.trans (Gr.toks ok1 _)) h6)
structure PutA (W : Wd) (x C : Addr) (name : Str) (d : D) (W' : Wd) : Prop where
  go : ∀ N X, W.P N X → ∃ X1 X2 dx o od m n, X = X1 ++ (dx, od) :: X2 ∧ (∀ p ∈ X1 ++ X2, p.1 ≠ dx) ∧ N x o ∧ (o.cls = .ref C ∧ o.dict = some dx ∧ o.data = .plain) ∧ DK od m n ∧ n < 1000 ∧ ∀ od' v, Rp N v d → DK od' (fun y => if y = name then some v else m y) (n + 1) → W'.P N (X1 ++ (dx, od') :: X2)
theorem put_ {x C : Addr} {name : Str} {d : D} {v : Value} {Q : Unit → Shared → Prop} {E : Value → Shared → Prop} (ok : Ok G s N) (hx : Hx X s N) (hw : W.P N X) (so : storeOk G.K C name = true) (hp : PutA W x C name d W') (r : Rp N v d)
    (k : ∀ s' X', GrX X X' s N s' N → W'.P N X' → Q () s') : wpAny G.M A (setAttr (.ref x) name v) Q E s := by
  obtain ⟨X1, X2, dx, o, od, m, nn, rfl, hd, h1, h2, h3, h4, h5⟩ := hp.go _ _ hw
  have hmem : (dx, od) ∈ X1 ++ (dx, od) :: X2 := List.mem_append_right _ (.head _)
  refine set_own_ ok.frag (ok.hold _ _ h1) h2 (hx.at_ _ hmem) h3 h4 so fun h' od' tk hg hdk hs => ?_
  refine k _ _ (GrX.set (tk := tk) ok hx rfl hd hg (fun b hb => hs.2 b hb) fun v e => ?_) (h5 od' v r hdk)
  obtain ⟨es, ep, hda, _⟩ := hdk.at_
  rw [hda] at e; cases e
variable {Q : Flow → Shared → Prop} {E : Value → Shared → Prop} {rest : List Stmt} {Y : Xs} {s₀ : Shared} {N₁ : Lg} {cx0 : Cx}
theorem putX {e o : Expr} {name : Str} {p p' : Pos} {x C : Addr} {d : D} (w : WX W N₁ X Y) (F : Fs G sc on ⟨X ++ Y, s₀, N₁⟩ cx env s N) (rm : Rm A n) (hsub : ∀ q ∈ cx0, q ∈ cx) (he : EvX G n sc cx0 W e W1 d) (ho : Ev G n sc cx0 o (.ref x)) (so : storeOk G.K C name = true) (hp : PutA W1 x C name d W')
    (k : ∀ s' N' X', WX W' N' X' Y → AllX X X' → Bse.Le ⟨X ++ Y, s₀, N₁⟩ ⟨X' ++ Y, s₀, N'⟩ → Fs G sc on ⟨X' ++ Y, s₀, N'⟩ cx env s' N' → Wp G A (execs rest env) Q E s')
    (hw : ∀ line env, EnvOk sc env → swapsWith e (some (Expr.Attribute o name p)) line env = Pure.pure false := by intro _ _ _; rfl) : Wp G A (execs (.Assign [.Attribute o name p] e p' :: rest) env) Q E s := by
  refine wseq ⟨?_⟩
  have hx := w.hx F
  with_reducible refine plainObj_wpAny_Assign_Attribute (he.go A env s N X rm (F.sub hsub).toVw hx (w.now F) _ _ fun v s1 N1 X1 g1 hw1 r1 => ?_) (hw _ _ F.envOk)
  obtain ⟨i1, i2, i3, i4⟩ := w.step F g1 hw1
  refine (ho.go A env s1 N1 rm (i4.sub hsub).toVw).go _ _ fun ov s2 N2 g2 r2 => ?_
  refine r2.eRef ?_
  have ok2 := (i4.gr g2).toOk
  have hx2 := g1.hx.gr g2
  refine put_ ok2 hx2 (W1.mono g2.le hw1) so hp (r1.mono g2.le) fun s3 X3 g3 hw3 => ?_
  obtain ⟨h1, h2, h3, h4⟩ := w.step F ((g1.trans (g2.x g1.hx) hx).trans g3 hx) hw3
  exact k s3 _ X3 h1 h2 h3 h4
theorem augX {e o : Expr} {op : Operator} {name : Str} {p p' : Pos} {x C : Addr} {d1 d2 d : D} (w : WX W N₁ X Y) (F : Fs G sc on ⟨X ++ Y, s₀, N₁⟩ cx env s N) (rm : Rm A n) (hsub : ∀ q ∈ cx0, q ∈ cx) (ho : Ev G n sc cx0 o (.ref x)) (ao : attrOk G.K C name = true) (ha : HasA W x C name d1) (he : Ev G n sc cx0 e d2) (hop : Ip2 G n op d1 d2 d) (so : storeOk G.K C name = true) (hp : PutA W x C name d W')
    (k : ∀ s' N' X', WX W' N' X' Y → AllX X X' → Bse.Le ⟨X ++ Y, s₀, N₁⟩ ⟨X' ++ Y, s₀, N'⟩ → Fs G sc on ⟨X' ++ Y, s₀, N'⟩ cx env s' N' → Wp G A (execs rest env) Q E s') : Wp G A (execs (.AugAssign (.Attribute o name p) op e p' :: rest) env) Q E s := by
  refine wseq ⟨?_⟩
  have hx := w.hx F
  have z := (F.sub hsub).toVw
  with_reducible refine wpAny_AugAssign_AttributeAny ((ho.go A env s N rm z).go _ _ fun ov s1 N1 g1 r1 => ?_)
  refine r1.eRef ?_
  have ok1 := (z.gr g1).toOk
  have hx1 := hx.gr g1
  have hw1 := W.mono g1.le (w.now F)
  obtain ⟨dx, o', od, m, nn, v, h1, h2, h3, h4, h5, h6⟩ := ha.go _ _ hw1
  refine get_own ok1.frag (ok1.hold _ _ h1) h2 (hx1.at_ _ h3) h4 ao h5 h6.handed ?_
  have gt := Gr.toks ok1 (s1.toks + 1)
  refine (he.go A env _ N1 rm (z.gr (g1.trans gt))).go _ _ fun v2 s2 N2 g2 r2 => ?_
  refine (hop.go A s2 N2 _ _ rm (z.gr ((g1.trans gt).trans g2)).toOk (h6.mono g2.le) r2).go _ _ fun v3 s3 N3 g3 r3 => ?_
  have gg := (((g1.trans gt).trans g2).trans g3)
  refine put_ (z.gr gg).toOk (hx.gr gg) (W.mono gg.le (w.now F)) so hp r3 fun s4 X4 g4 hw4 => ?_
  obtain ⟨i1, i2, i3, i4⟩ := w.step F ((gg.x hx).trans g4 hx) hw4
  exact k s4 _ X4 i1 i2 i3 i4

noncomputable def Lg.uf' (N1 N : Lg) (X : Xs) : Lg := fun a o => N1 a o ∧ ((∃ p ∈ X, p.1 = a) → N a o)
theorem Gr.uf' {s1 : Shared} {N1 : Lg} (g : Gr s (N.fz X) s1 N1) : Gr s N s1 (N1.uf' N X) :=
  ⟨g.keep, fun a o e => ⟨g.le a o (.inl e), fun _ => e⟩, fun a o e => (g.new a o e.1).elim (fun h => h.elim .inl fun h => .inl (e.2 ⟨_, h, rfl⟩)) .inr, fun a o e => g.hold a o e.1, g.gens, g.os⟩
theorem lview {x : Str} {ds : List D} (z : Vw G sc cx env s N) (hm : (x, Ent.lst ds) ∈ cx) : ∃ X : Xs, Vw G sc ((x, .imm (.list ds)) :: cx) env s (N.fz X) := by
  obtain ⟨a, vs, h1, ⟨o, h2, h3, nn, h4⟩, h5⟩ := z.vars _ _ hm
  refine ⟨[(a, o)], { tp := fun b q e => .inl (z.tp b q e), hold := fun b q e => e.elim (z.hold b q) fun e => ?_, envOk := z.envOk, vars := fun y t hy => ?_ }⟩
  · rcases List.mem_singleton.mp e with e; cases e; exact h2
  · rcases List.mem_cons.mp hy with e | hy
    · cases e
      exact ⟨_, h1, .list (.inr (.head _)) h3.1 h4 (h5.mono fun _ _ e => .inl e)⟩
    · exact (z.vars y t hy).keeps (fun _ _ e => e) fun _ _ e => .inl e
theorem Ev.lview {x : Str} {ds : List D} {e : Expr} {d : D} (h : Ev G n sc ((x, .imm (.list ds)) :: cx) e d) (hf : d.flat = true) (hm : (x, Ent.lst ds) ∈ cx) : Ev G n sc cx e d :=
  ⟨fun A env s N rm z => ⟨fun Q E k => by
    obtain ⟨X, z'⟩ := Mine.lview z hm
    exact (h.go A env s _ rm z').go _ _ fun v s1 N1 g r => k v s1 _ g.uf' (r.flat hf)⟩⟩
theorem EvT.lview {x : Str} {ds : List D} {e : Expr} {b : Bool} (h : EvT G n sc ((x, .imm (.list ds)) :: cx) e b) (hm : (x, Ent.lst ds) ∈ cx) : EvT G n sc cx e b :=
  ⟨fun A env s N rm z => ⟨fun Q E k => by
    obtain ⟨X, z'⟩ := Mine.lview z hm
    exact (h.go A env s _ rm z').go _ _ fun s1 N1 g => k s1 _ g.uf'⟩⟩
theorem Rps.flat {N N' : Lg} {vs : List Value} {ds : List D} (h : (ds.all D.flat) = true) (r : Rps N vs ds) : Rps N' vs ds :=
  r.ind (C := fun vs ds => (ds.all D.flat) = true → Rps N' vs ds) (fun _ => .nil) (fun _ _ _ _ r _ ih h => by
    rw [List.all_cons, Bool.and_eq_true] at h
    exact .cons (r.flat h.1) (ih h.2)) h
theorem EvM.lview {x : Str} {ds : List D} {e : Expr} {es : List D} (h : EvM G n sc ((x, .imm (.list ds)) :: cx) e es) (hf : es.all D.flat = true) (hm : (x, Ent.lst ds) ∈ cx) : EvM G n sc cx e es :=
  ⟨fun A env s N rm z => ⟨fun Q E k => by
    obtain ⟨X, z'⟩ := Mine.lview z hm
    exact (h.go A env s _ rm z').go _ _ fun a vs s1 N1 g h0 hN hl hr => k a vs s1 _ g.uf' h0 (fun o e => hN o e.1) hl (hr.flat hf)⟩⟩
end
end Mine
end
section
set_option tactic.hygienic false
open PySem PySem.W PyProof.Rows
namespace Mine
noncomputable def Said (N : Lg) (v : Option Value) : Option D → Prop
  | none => v = none
  | some d => ∃ u, v = some u ∧ Rp N u d
theorem Said.mono {N N' : Lg} (hs : ∀ a o, N a o → N' a o) {v : Option Value} {t : Option D} (h : Said N v t) : Said N' v t := by
  cases t with
  | none => exact h
  | some d => exact let ⟨u, a, b⟩ := h; ⟨u, a, b.mono hs⟩
inductive WIp (x C : Addr) (l : List (Str × D)) (N : Lg) (X : Xs) : Prop
  | mk (dx : Addr) (od o : Obj) (m : Str → Option Value) (n : Nat) (h1 : X = [(dx, od)]) (h2 : N x o) (h3 : o.cls = .ref C ∧ o.dict = some dx ∧ o.data = .plain) (h4 : DK od m n) (h5 : n ≤ l.length) (h6 : ∀ y, Said N (m y) (l.lookup y))
noncomputable def WI (x C : Addr) (l : List (Str × D)) : Wd where
  P := WIp x C l
  mono := fun hs ⟨dx, od, o, m, n, h1, h2, h3, h4, h5, h6⟩ => ⟨dx, od, o, m, n, h1, hs _ _ h2, h3, h4, h5, fun y => (h6 y).mono hs⟩
theorem WI.put {x C : Addr} {l : List (Str × D)} {name : Str} {d : D} (hl : l.length < 999) : PutA (WI x C l) x C name d (WI x C ((name, d) :: l)) := by
  refine ⟨fun N X ⟨dx, od, o, m, n, h1, h2, h3, h4, h5, h6⟩ => ⟨[], [], dx, o, od, m, n, by rw [h1]; rfl, fun _ h => (nomatch h), h2, h3, h4, by lia, fun od' v r hd => ?_⟩⟩
  refine ⟨dx, od', o, _, _, rfl, h2, h3, hd, by simp; lia, fun y => ?_⟩
  rw [List.lookup_cons]
  by_cases hy : y = name
  · subst hy
    rw [beq_self_eq_true]
    exact ⟨v, by simp, r⟩
  · rw [beq_false_of_ne hy]
    simp only [if_neg hy]
    exact h6 y
theorem WI.has {x C : Addr} {l : List (Str × D)} {name : Str} {d : D} (h : l.lookup name = some d) : HasA (WI x C l) x C name d := by
  refine ⟨fun N X ⟨dx, od, o, m, n, h1, h2, h3, h4, h5, h6⟩ => ?_⟩
  have := h6 name
  rw [h] at this
  obtain ⟨v, a, b⟩ := this
  exact ⟨dx, o, od, m, n, v, h2, h3, by rw [h1]; exact .head _, h4, a, b⟩
theorem zip_of {N : Lg} (l : List (Str × D)) : ∀ m : Str → Option Value, (l.map (·.1)).Nodup → (∀ y, Said N (m y) (l.lookup y)) → ∃ vs, Rps N vs (l.map (·.2)) ∧ ∀ y, m y = ((l.map (·.1)).zip vs).lookup y := by
  induction l with
  | nil => exact fun m _ h => ⟨[], .nil, h⟩
  | cons q t ih =>
    intro m hn h
    rw [List.map_cons, List.nodup_cons] at hn
    have hk := h q.1
    rw [List.lookup_cons, beq_self_eq_true] at hk
    obtain ⟨v, hv, rv⟩ := hk
    obtain ⟨vs, i1, i2⟩ := ih (fun y => if y = q.1 then none else m y) hn.2 fun y => by
      by_cases hy : y = q.1
      · rw [if_pos hy, hy, show t.lookup q.1 = none from Option.eq_none_iff_forall_ne_some.mpr fun d e => hn.1 (List.mem_map.mpr ⟨_, PySem.mem_of_lookup e, rfl⟩)]
        rfl
      · have := h y
        rw [List.lookup_cons, beq_false_of_ne hy] at this
        rwa [if_neg hy]
    refine ⟨v :: vs, .cons rv i1, fun y => ?_⟩
    rw [List.map_cons, List.zip_cons_cons, List.lookup_cons]
    by_cases hy : y = q.1
    · rw [hy, beq_self_eq_true, hv]
    · rw [beq_false_of_ne hy, ← i2 y, if_neg hy]
section
variable {G : Gs} {n : Nat} {A : Around} {sc : Scope} {on : List Str} {B : Bse} {cx : Cx} {env : Env} {s : Shared} {N : Lg}
theorem Rm.under {C : Addr} {rest : List Value} (h : Rm A (n + 1)) : Rm (A.under (.builtin "type.__call__" ⟨.ref C :: rest, []⟩)) n := by
  have w : (Code.builtin "type.__call__" ⟨.ref C :: rest, []⟩).weight = 1 := by
    have h1 : (Code.builtin "type.__call__" ⟨.ref C :: rest, []⟩).frames = 0 := by rfl
    have h2 : (Code.builtin "type.__call__" ⟨.ref C :: rest, []⟩).isCreation = true := by rfl
    have h3 : (Code.builtin "type.__call__" ⟨.ref C :: rest, []⟩).isGuard = false := by show guardIds.contains "type.__call__" = false; decide +kernel
    have h4 : (Code.builtin "type.__call__" ⟨.ref C :: rest, []⟩).isCaller = false := by rfl
    unfold Code.weight; rw [h1, h2, h3, h4]; rfl
  refine ⟨?_, ?_, ?_⟩
  · have := h.depth; show A.depth + _ + n < 1000; rw [w]; lia
  · have := h.units
    have hu : (Code.builtin "type.__call__" ⟨.ref C :: rest, []⟩).cUnits = 1 := by rfl
    show A.units + _ + 20 * n + 400 < 9900; lia
  · exact h.handled
theorem Fn.new {C fI : Addr} {args : List D} {l : List (Str × D)} (hm : makesIn G.K C = true) (hi : findIn G.K (.ref C) "__init__" = some (some (.ref fI))) (hf : typeIn G.K (.ref fI) = some (.type "function")) (hnd : (l.map (·.1)).Nodup)
    (hc : ∀ x, FnXC G n (.ref fI) (.ref x :: args) (WI x C []) (WI x C l) .none) : Fn G (n + 1) (.ref C) args (.obj C (l.map (·.1)) (l.map (·.2))) := by
  refine ⟨fun A s N vs rm ok hr => ⟨fun Q E k => ?_⟩⟩
  obtain ⟨h, g, dr, t, os⟩ := s
  have X := ok.frag
  refine wpAny_call (make_core (makes_of X hm) (looks_findIn X hi) (fun self => bind_fn X self hf) (.inl rfl) ?_)
  have sz : (h.push emptyDict).objs.size = h.objs.size + 1 := Heap.size_push ..
  have k2 : ∀ b o, h.get? b = some o → ((h.push emptyDict).push (instObj C h.objs.size)).get? b = some o := fun b o e => Heap.get?_push_of_some _ (Heap.get?_push_of_some _ e)
  have hD : ((h.push emptyDict).push (instObj C h.objs.size)).get? h.objs.size = some emptyDict := Heap.get?_push_of_some _ (Heap.get?_push_size _ rfl)
  have hx : ((h.push emptyDict).push (instObj C h.objs.size)).get? (h.objs.size + 1) = some (instObj C h.objs.size) := by rw [← sz]; exact Heap.get?_push_size _ rfl
  generalize hh2 : (h.push emptyDict).push (instObj C h.objs.size) = h2 at *
  have fr : ∀ a, h.objs.size ≤ a → h.get? a = none := fun a e => Heap.get?_none_of_le e
  have g1 : Gr ⟨h, g, dr, t, os⟩ N ⟨h2, g, dr, t, os⟩ N := Gr.keeps ok k2 rfl rfl
  have g2 : Gr ⟨h, g, dr, t, os⟩ N ⟨h2, g, dr, t, os⟩ (N.add (h.objs.size + 1) (instObj C h.objs.size)) := g1.freeze (fr _ (Nat.le_succ _)) hx
  have hN : ∀ a, h.objs.size ≤ a → ∀ o, ¬ N a o := fun a e o q => by have := ok.hold _ _ q; have e' : h.get? a = none := fr a e; rw [e'] at this; cases this
  have hx2 : Hx [(h.objs.size, emptyDict)] ⟨h2, g, dr, t, os⟩ (N.add (h.objs.size + 1) (instObj C h.objs.size)) := by
    refine ⟨fun p hp => ?_, fun p hp o q => ?_, fun p hp v => ?_⟩ <;> rcases List.mem_singleton.mp hp with rfl
    · exact hD
    · rcases q with q | ⟨q, _⟩
      · exact hN _ (Nat.le_refl _) o q
      · exact absurd q (Nat.ne_of_lt (Nat.lt_succ_self _))
    · show emptyDict.data ≠ _; simp
  have hw : (WI (h.objs.size + 1) C []).P (N.add (h.objs.size + 1) (instObj C h.objs.size)) [(h.objs.size, emptyDict)] :=
    ⟨_, _, _, fun _ => none, 0, rfl, Lg.add_self .., ⟨rfl, rfl, rfl⟩, ⟨#[], _, rfl, fun e he => by simp at he, fun name => by simp [nsFind, findBy], by simp⟩, Nat.le_refl _, fun _ => rfl⟩
  refine codeAny_mono ((hc (h.objs.size + 1)).go _ ⟨h2, g, dr, t, os⟩ _ (.ref (h.objs.size + 1) :: vs) _ rm.under (g2.ok ok) hx2 hw (.cons (.ref _) (hr.mono g2.le)) (fun v s' => v = .none ∧ Q (.ref (h.objs.size + 1)) s') E fun v s' N' X' gx hw' r => ?_) fun r s' z => ?_
  · refine r.eNone ?_
    refine ⟨rfl, ?_⟩
    obtain ⟨dx, od, o, m, nn, e1, e2, e3, e4, e5, e6⟩ := hw'
    subst e1
    obtain ⟨ws, j1, j2⟩ := zip_of l m hnd e6
    have hdx := gx.hx.at_ _ (.head _)
    have hdx0 : h.get? dx = none := by
      rcases gx.src _ (.head _) with ⟨q, hq, e⟩ | e
      · rcases List.mem_singleton.mp hq with rfl
        have e : h.objs.size = dx := e
        rw [← e]; exact fr _ (Nat.le_refl _)
      · exact none_of_keep k2 e
    have gg : Gr ⟨h, g, dr, t, os⟩ N s' N' := by
      refine ⟨fun a o e => gx.keep a o (fun p hp q => ?_) (k2 a o e), fun a o e => gx.le a o (g2.le a o e), fun a o e => ?_, gx.hold, gx.gens, gx.os⟩
      · rcases List.mem_singleton.mp hp with rfl
        have q : h.objs.size = a := q
        have e : h.get? a = some o := e
        rw [← q, fr _ (Nat.le_refl _)] at e; cases e
      · rcases gx.new a o e with e | e
        · exact g2.new a o e
        · exact .inr (none_of_keep k2 e)
    refine k _ s' _ (gg.freeze hdx0 hdx) (.obj (.inl e2) e3 (Lg.add_self ..) (e4.eq j2) (j1.mono (Lg.add_le _ _ _)))
  · rcases r with e | (v | _ | _ | _)
    · exact z
    all_goals first | exact z.elim | exact z
theorem Ev.new {f : Str} {p pos : Pos} {e : Expr} {es : List Expr} {ds : List D} {d : D} {C : Addr} (hn : Nm G sc f (.ref C)) (hk : keepIn G.K (.ref C) = true) (ha : EvL G n sc cx (e :: es) ds) (hc : Fn G n (.ref C) ds d)
    (he : ∀ env, starEach (e :: es) env = (false, eval e env) :: starEach es env := by intro _; rfl) (hp : ∀ env pos, (backTo pos (starEach es env)).any (·.1) = false := by intro _ _; rfl) : Ev G n sc cx (.Call (.Name f p) (e :: es) [] pos) d := by
  refine ⟨fun A env s N rm z => ⟨fun Q E k => ?_⟩⟩
  with_reducible refine wpAny_Call_NameR (hn.eval z (callWith_K (first := []) z.toOk.frag hk (ha.go A env s N pos rm z _ _ fun vs s1 N1 g1 r1 => ?_) (he env) (hp env pos)))
  have ok1 := (z.gr g1).toOk
  exact ⟨ok1.frag, (hc.go A s1 N1 vs rm ok1 r1).go _ _ fun v s2 N2 g2 r2 => k _ _ _ (g1.trans g2) r2⟩
end
end Mine
end
section
set_option tactic.hygienic false
open PySem PySem.W PyProof.Rows
namespace Mine
theorem rmulW (a : Int) (t : Tok) (l : Addr) (o : Obj) (items : Array Value) (n : Nat) (hd : o = { cls := .type "list", dict := o.dict, data := .seq items n, slots := o.slots }) :
    Meets (Builtin.«int.__rmul__» ⟨[.int a t, .ref l], []⟩) (fun _ R s => s.heap.get? l = some o ∧ R (.ok (.ret Value.notImplemented)) s) := by
  rw [hd]
  generalize o.dict = dd
  generalize o.slots = sl
  exact .of_wp fun prog w A R s h => by obtain ⟨hp, g, d, tk, os⟩ := s; obtain ⟨hl, h⟩ := h; wp_walk; exact ⟨_, rfl, h⟩
theorem mulW (l : Addr) (o : Obj) (items : Array Value) (n : Nat) (x : Int) (u : Tok) (hd : o = { cls := .type "list", dict := o.dict, data := .seq items n, slots := o.slots }) (hc0 : ¬(!Builtin.List.listFitsIndex x) = true) (hc1 : ¬items.size * x.toNat > (2 ^ 63 - 1) / 8) (hc2 : ¬Builtin.List.listTooLong (items.size * x.toNat) = true) :
    Meets (Builtin.«list.__mul__» ⟨[.ref l, .int x u], []⟩) (fun _ R s => s.heap.get? l = some o ∧ R (.ok (.ret (Value.ref s.heap.objs.size))) { s with heap := s.heap.push { cls := Value.type "list", data := Data.seq (List.foldl (fun x1 x2 => x1 ++ x2) #[] (List.replicate (if items.isEmpty = true then 0 else x.toNat) items)) }, toks := s.toks }) := by
  rw [hd]
  generalize o.dict = dd
  generalize o.slots = sl
  exact .of_wp fun prog w A R s h => by
    obtain ⟨hp, g, d, tk, os⟩ := s; obtain ⟨hl, h⟩ := h
    have hsz := AutoListH.joined_fits hc2
    wp_walk; refine wpAny_ite_false (decide_eq_false (Nat.not_lt.mpr hsz)) ?_; wp_walk; exact ⟨_, rfl, h⟩
theorem foldl_app : ∀ (k : Nat) (vs : List Value) (acc : Array Value), List.foldl (fun x1 x2 => x1 ++ x2) acc (List.replicate k vs.toArray) = acc ++ (List.replicate k vs).flatten.toArray
  | 0, vs, acc => by simp
  | k + 1, vs, acc => by
    rw [List.replicate_succ, List.foldl_cons, foldl_app k vs, List.replicate_succ, List.flatten_cons]
    simp
theorem Rps.rep {N : Lg} {vs : List Value} {ds : List D} (h : Rps N vs ds) : ∀ k, Rps N (List.replicate k vs).flatten (List.replicate k ds).flatten
  | 0 => .nil
  | k + 1 => by rw [List.replicate_succ, List.replicate_succ, List.flatten_cons, List.flatten_cons]; exact h.append (Rps.rep h k)
section
variable {G : Gs} {n : Nat} {A : Around} {sc : Scope} {on : List Str} {B : Bse} {cx : Cx} {env : Env} {s : Shared} {N : Lg}
theorem op_mulL {ds : List D} {x : Int} (hne : ds ≠ []) (h1 : -(2 ^ 63) ≤ x) (h2 : x < 2 ^ 63) (hsz : ds.length * x.toNat ≤ 2 ^ 24) : Op2M G n .Mult (.list ds) (.int x) (List.replicate x.toNat ds).flatten := ⟨fun A s N a b rm ok r1 r2 => ⟨fun Q E k => by
  refine r1.eList ?_; intro a o vs nn a1 a2 a3 a4; refine r2.eInt ?_; intro u
  have hl := a4.length
  have hd : o = { cls := .type "list", dict := o.dict, data := .seq vs.toArray nn, slots := o.slots } := by
    obtain ⟨c, d, dt, sl⟩ := o
    dsimp only at a2 a3 ⊢
    rw [a2, a3]
  have ho := ok.hold _ _ a1
  have hsz' : vs.toArray.size * x.toNat ≤ 2 ^ 24 := by simp only [List.size_toArray]; rw [hl]; exact hsz
  have hne' : vs.toArray.isEmpty = false := by
    cases vs with
    | nil => cases ds with
      | nil => exact absurd rfl hne
      | cons _ _ => simp at hl
    | cons _ _ => rfl
  refine wpAny_binaryOp_repeat_ref (T := "list") (U := "int") (by decide) ⟨_, ho, a2⟩ (fun s' => typeIs_int s' x u) noFill_list_mul F.fills_int_mul F.slot_int_rmul repeat_list F.slot_int_index.lookup
    (call_meets F.slot_int_rmul (typeIs_int s x u) F.entry_int_rmul (F.args_int_rmul_2 _ _) (rmulW x u a o vs.toArray nn hd)
      ⟨ho, rfl, ⟨_, ho, a2⟩, call_meets F.slot_list_mul ⟨_, ho, a2⟩ F.entry_list_mul (F.args_list_mul_2 _ _)
        (mulW a o vs.toArray nn x u hd (by simp [Builtin.List.listFitsIndex]; lia) (by lia) (by simp [Builtin.List.listTooLong, sizeLine]; simp at hsz'; lia)) ⟨ho, ?_⟩⟩)
  have hno : s.heap.get? s.heap.objs.size = Option.none := Heap.get?_none_of_le (Nat.le_refl _)
  rw [hne']
  simp only [Bool.false_eq_true, if_false]
  rw [foldl_app]
  have e0 : #[] ++ (List.replicate x.toNat vs).flatten.toArray = (List.replicate x.toNat vs).flatten.toArray := by simp
  rw [e0]
  refine k _ _ { s with heap := _ } N (Gr.keeps ok (fun a o e => Heap.get?_push_of_some _ e) rfl rfl) hno (fun o e => ?_) ⟨_, Heap.get?_push_size _ rfl, ⟨rfl, rfl⟩, 0, rfl⟩ (a4.rep _)
  have := ok.hold _ _ e; rw [hno] at this; cases this⟩⟩
theorem Ev.callTM {f : Str} {T : String} {p pos : Pos} {e : Expr} {es : List Expr} {ds ds' : List D} (hn : Nm G sc f (.type T)) (ha : EvL G n sc cx (e :: es) ds) (hc : FnM G n (.type T) ds ds')
    (he : ∀ env, starEach (e :: es) env = (false, eval e env) :: starEach es env := by intro _; rfl) (hp : ∀ env pos, (backTo pos (starEach es env)).any (·.1) = false := by intro _ _; rfl) : EvM G n sc cx (.Call (.Name f p) (e :: es) [] pos) ds' := by
  refine ⟨fun A env s N rm z => ⟨fun Q E k => ?_⟩⟩
  with_reducible refine wpAny_Call_NameR (hn.eval z (PyProof.Rows.callWith_type1 (ha.go A env s N pos rm z _ _ fun vs s1 N1 g1 r1 => ?_) (he env) (hp env pos)))
  exact (hc.go A s1 N1 vs rm (z.gr g1).toOk r1).go _ _ fun a vs s2 N2 g2 h1 h2 h3 h4 => k _ _ _ _ (g1.trans g2) (none_of_keep g1.keep h1) h2 h3 h4
theorem Rps.of_get {N : Lg} : ∀ (vs : List Value) (ds : List D), vs.length = ds.length → (∀ (i : Nat) (v : Value) (d : D), vs[i]? = some v → ds[i]? = some d → Rp N v d) → Rps N vs ds
  | [], [], _, _ => .nil
  | [], _ :: _, h, _ => by simp at h
  | _ :: _, [], h, _ => by simp at h
  | v :: vs, d :: ds, h, k => .cons (k 0 v d rfl rfl) (Rps.of_get vs ds (by simpa using h) fun i v' d' h1 h2 => k (i + 1) v' d' (by simpa using h1) (by simpa using h2))
theorem fn_listS {x : Str} (hx : x.length ≤ sizeLine) : FnM G n (.type "list") [.str x] (signs x) := ⟨fun A s N vs rm ok hr => ⟨fun Q E k => by
  refine hr.e1 ?_; intro v h1; refine h1.eStr ?_; intro t
  refine call_list_str rm.handled x t (fun h' tk acc' c' hk hg hI => ?_) hx
  have hno : s.heap.get? s.heap.objs.size = Option.none := Heap.get?_none_of_le (Nat.le_refl _)
  refine k _ acc'.toList { s with heap := h', toks := tk } N (Gr.keeps ok hk rfl rfl) hno (fun o e => ?_) ⟨_, hg, ⟨rfl, rfl⟩, c', by simp⟩ (Rps.of_get _ _ ?_ fun i v d hv hd => ?_)
  · have := ok.hold _ _ e; rw [hno] at this; cases this
  · simp [signs, hI.1]
  · obtain ⟨c, u, h3, h4⟩ := hI.2 i v (by simpa using hv)
    simp only [signs, List.getElem?_map] at hd
    obtain ⟨c', h5, h6⟩ := Option.map_eq_some_iff.mp hd
    have : c' = c := by rw [Array.getElem?_toList, h3] at h5; cases h5; rfl
    subst this
    rw [h4, ← h6]; exact .str _ _⟩⟩
theorem fn_tupleL {ds : List D} (hx : ds.length ≤ sizeLine) : Fn G n (.type "tuple") [.list ds] (.tuple ds) := ⟨fun A s N vs rm ok hr => ⟨fun Q E k => by
  refine hr.e1 ?_; intro v h1; refine h1.eList ?_; intro a o vs nn a1 a2 a3 a4
  have hl := a4.length
  refine call_tuple_list ⟨_, ok.hold _ _ a1, a2, _, a3⟩ (fun h' hk => ?_) (by simp only [List.size_toArray]; lia)
  have gk : Gr s N { s with heap := h' } N := Gr.keeps ok hk rfl rfl
  have gp : Gr s N { s with heap := h'.push { cls := .type "tuple", data := .seq vs.toArray } } N := Gr.keeps ok (fun b o e => Heap.get?_push_of_some _ (hk b o e)) rfl rfl
  have hno : s.heap.get? h'.objs.size = Option.none := by
    cases q : s.heap.get? h'.objs.size with
    | none => rfl
    | some o => exact absurd (Heap.lt_size (hk _ _ q)) (Nat.lt_irrefl _)
  exact k _ _ _ (gp.freeze hno (Heap.get?_push_size _ rfl)) (.tuple (Lg.add_self ..) rfl rfl (a4.mono (Lg.add_le _ _ _)))⟩⟩
theorem fn_index {x y : Str} {i : Nat} {rest : List Nat} (ho : Builtin.Str.occurrences x y 0 x.length 1 = i :: rest) : Fn G n (.builtin "str.index") [.str x, .str y] (.int i) := ⟨fun A s N vs rm ok hr => by
  refine hr.e2 ?_; intro v v' h1 h2; refine h1.eStr ?_; intro t; refine h2.eStr ?_; intro u
  exact sp_tok ok fun Q E k => by with_reducible exact SC.index ho (k _ _ (.int _ _))⟩
noncomputable def pickD (ds : List D) (lo hi st : Option Int) : List D := (sliceRange (sliceBounds lo hi st ds.length).1 (sliceBounds lo hi st ds.length).2.1 (sliceBounds lo hi st ds.length).2.2).filterMap (ds[·]?)
theorem Rps.pick {N : Lg} {vs : List Value} {ds : List D} (h : Rps N vs ds) : ∀ (l : List Nat), Rps N (l.filterMap (vs.toArray[·]?)) (l.filterMap (ds[·]?))
  | [] => .nil
  | i :: l => by
    have hl := h.length
    rw [List.filterMap_cons, List.filterMap_cons]
    simp only [List.getElem?_toArray]
    cases hd : ds[i]? with
    | none =>
      have : vs[i]? = Option.none := by rw [List.getElem?_eq_none_iff] at hd ⊢; lia
      rw [this]; simpa using Rps.pick h l
    | some d =>
      obtain ⟨v, hv, r⟩ := h.get hd
      rw [hv]
      exact .cons r (by simpa using Rps.pick h l)
theorem part_is {p : Option (Int × Tok)} {i : Option Int} (h : p.map (·.1) = i) : IsPart (partValue p) i := by
  subst h
  cases p with
  | none => exact .none
  | some q => exact .int _ _
theorem EvM.sliceL {v st : Expr} {lo hi : Option Expr} {p pos : Pos} {ds : List D} {i j k' : Option Int} (hv : Ev G n sc cx v (.list ds)) (hlo : EvP G n sc cx lo i) (hhi : EvP G n sc cx hi j) (hst : EvP G n sc cx (some st) k') (h0 : k' ≠ some 0) (hx : ds.length ≤ sizeLine) :
    EvM G n sc cx (.Subscript v (.Slice lo hi (some st) p) pos) (pickD ds i j k') := by
  refine ⟨fun A env s N rm z => ⟨fun Q E k => ?_⟩⟩
  with_reducible refine Subscript_ ((hv.go A env s N rm z).go _ _ fun o s1 N1 g1 r1 => ?_)
  refine r1.eList ?_; intro a o vs nn a1 a2 a3 a4
  with_reducible refine wpAny_Slice (hlo.go A env s1 N1 rm (z.gr g1) _ _ fun pl s2 N2 g2 e2 => hhi.go A env s2 N2 rm ((z.gr g1).gr g2) _ _ fun pu s3 N3 g3 e3 => hst.go A env s3 N3 rm (((z.gr g1).gr g2).gr g3) _ _ fun ps s4 N4 g4 e4 => ?_)
  have ok4 := ((((z.gr g1).gr g2).gr g3).gr g4).toOk
  have hl := a4.length
  have gg := ((g2.trans g3).trans g4)
  have hL := ok4.hold _ _ (gg.le _ _ a1)
  have gp : Gr s4 N4 { s4 with heap := s4.heap.push { cls := .type "slice", data := .fields #[partValue pl, partValue pu, partValue ps] } } N4 := Gr.keeps ok4 (fun a o e => Heap.get?_push_of_some _ e) rfl rfl
  have hT : Shared.TypeIs { s4 with heap := s4.heap.push { cls := .type "slice", data := .fields #[partValue pl, partValue pu, partValue ps] } } (.ref a) "list" := ⟨_, Heap.get?_push_of_some _ hL, a2⟩
  with_reducible refine tail_any hT slot_list_getitem.lookup ?_ (ops := [.ref a, .ref s4.heap.objs.size]) ?_
  · refine wpAny_getItem_list_slice (l := a) (items := vs.toArray) ⟨_, Heap.get?_push_of_some _ hL, a2, _, a3⟩ (Heap.IsSliceOf.new ..) (part_is e2) (part_is e3) (part_is e4) h0 ?_ (by simp only [List.size_toArray]; lia)
    have e : slicePick vs.toArray i j k' = ((sliceRange (sliceBounds i j k' ds.length).1 (sliceBounds i j k' ds.length).2.1 (sliceBounds i j k' ds.length).2.2).filterMap (vs.toArray[·]?)).toArray := by
      unfold slicePick; rw [List.size_toArray, hl]
    rw [e]
    have gq := gp.ok ok4
    have hno : (s4.heap.push { cls := .type "slice", data := .fields #[partValue pl, partValue pu, partValue ps] }).get? (s4.heap.push { cls := .type "slice", data := .fields #[partValue pl, partValue pu, partValue ps] }).objs.size = Option.none := Heap.get?_none_of_le (Nat.le_refl _)
    refine k _ _ _ N4 ((g1.trans gg).trans (gp.trans (Gr.keeps gq (fun a o e => Heap.get?_push_of_some _ e) rfl rfl))) (none_of_keep ((g1.trans gg).trans gp).keep hno) (fun o e => ?_) ⟨_, Heap.get?_push_size _ rfl, ⟨rfl, rfl⟩, 0, rfl⟩ ((a4.mono gg.le).pick _)
    have := gq.hold _ _ e; rw [hno] at this; cases this
  · with_unfolding_all rfl
set_option tactic.hygienic true in
theorem tr_list {ds : List D} (h : ds.length ≤ sizeLine) : Tr G n (.list ds) (!ds.isEmpty) := ⟨fun A s N v rm ok r => ⟨fun Q E k => by
  cases r with | list a1 a2 a3 a4 =>
    have hl := a4.length
    have hz : sizeLine = 16777216 := rfl
    rename_i vs _
    refine wpAny_truthy_list ⟨_, ok.hold _ _ a1, a2, _, a3⟩ (by simp only [List.size_toArray]; lia) ?_
    have e : (!vs.toArray.isEmpty) = !ds.isEmpty := by
      cases vs <;> cases ds <;> first | rfl | simp at hl
    rw [e]
    exact k _ _ (Gr.toks ok _)⟩⟩
theorem setItem_lst {l : Addr} {items : Array Value} {k : Int} {t : Tok} {v : Value} {Q : Unit → Shared → Prop} {E : Value → Shared → Prop} (hl : LstAt s.heap l items)
    (h0 : 0 ≤ k) (hfit : k < 2 ^ 63) (hn : k < items.size)
    (hQ : ∀ h', LstAt h' l (items.setIfInBounds k.toNat v) → Heap.SameBut l s.heap h' → Q () { s with heap := h' }) :
    wpAny G.M A (setItem (.ref l) (.int k t) v) Q E s := by
  have hI := hl.isList
  obtain ⟨o, ho, hc, ne, hd⟩ := hl
  unfold setItem
  refine wpAny_holding ?_
  refine wpAny_bind (wpAny_sequenceKey hI.typeIs (by decide) ?_)
  refine wpAny_bind (wpAny_callSpecial?_slot (name := Str.ofString "__setitem__") hI.typeIs slot_list_setitem
    (wpAny_call_entry slot_list_setitem hI.typeIs entry_list_setitem ?_ (args_list_setitem _ _ _)))
  show wpAny _ _ (Builtin.List.listSubscript? (.int k t) >>= _) _ _ s
  refine wpAny_bind (wpAny_listSubscript_int (fitsIndex_of h0 hfit) ?_)
  clear hfit
  obtain ⟨j, rfl⟩ := Int.eq_ofNat_of_zero_le h0
  have hj : j < items.size := by lia
  have hx' : items[j]? = some items[j] := Array.getElem?_eq_getElem hj
  show wpAny _ _ ((seqItemAt l j >>= fun r => pure (r.map (j, ·))) >>= _) _ _ s
  refine wpAny_bind (wpAny_bind (wpAny_seqItemAt ho hd (wpAny_pure ?_)))
  rw [hx']
  show wpAny _ _ (setSeqItemAt l j v >>= _) _ _ s
  obtain ⟨n', hd'⟩ := Obj.data_mapSeq hd (·.setIfInBounds j v)
  have hfin : LstAt (s.heap.update l (Obj.mapSeq (·.setIfInBounds j v))) l (items.setIfInBounds j v) :=
    ⟨_, Heap.get?_update_self _ ho (Obj.isFreed_of_seq hd'), ⟨(Obj.cls_mapSeq ..).trans hc.1, by obtain ⟨c, d, dt, sl⟩ := o; cases dt <;> exact hc.2⟩, n', hd'⟩
  refine wpAny_bind (wpAny_setSeqItemAt ho hd ?_)
  first
    | exact wpAny_bind (wpAny_pure (wpAny_pure ⟨.none, rfl, wpAny_pure (hQ _ hfin (Heap.SameBut.update ..))⟩))
    | exact wpAny_pure ⟨.none, rfl, wpAny_pure (hQ _ hfin (Heap.SameBut.update ..))⟩
theorem Rps.set {N : Lg} {vs : List Value} {ds : List D} (h : Rps N vs ds) : ∀ (k : Nat) {v : Value} {d : D}, Rp N v d → Rps N (vs.set k v) (ds.set k d) :=
  h.ind (C := fun vs ds => ∀ (k : Nat) {v : Value} {d : D}, Rp N v d → Rps N (vs.set k v) (ds.set k d)) (fun _ _ _ _ => .nil) fun v vs d ds r rs ih k v' d' q => by
    cases k with
    | zero => exact .cons q rs
    | succ k => exact .cons r (ih k q)
variable {Q : Flow → Shared → Prop} {E : Value → Shared → Prop} {rest : List Stmt}
theorem asg3 {x y z : Str} {p1 p2 p3 p' : Pos} {e : Expr} {d : D} (F : Fs G sc on B cx env s N) (rm : Rm A n) (he : Ev G n sc cx e d) (hx : canSt sc on cx x = true) (hy : canSt sc on ((x, .imm d) :: cx) y = true) (hz : canSt sc on ((y, .imm d) :: (x, .imm d) :: cx) z = true)
    (k : ∀ s' N', Fs G sc on B ((z, .imm d) :: (y, .imm d) :: (x, .imm d) :: cx) env s' N' → Wp G A (execs rest env) Q E s')
    (hw : ∀ env, EnvOk sc env → swappedStores [.Name x p1, .Name y p2, .Name z p3] e env = Pure.pure none := by intro _ _; rfl) : Wp G A (execs (.Assign [.Name x p1, .Name y p2, .Name z p3] e p' :: rest) env) Q E s := by
  obtain ⟨x1, x2, x3⟩ := canSt.all hx
  obtain ⟨y1, y2, y3⟩ := canSt.all hy
  obtain ⟨z1, z2, z3⟩ := canSt.all hz
  refine wseq ⟨?_⟩
  with_reducible refine wpAny_Assign_three ((he.go A env s N rm F.toVw).go _ _ fun v s1 N1 g1 r1 => ?_) (by with_unfolding_all rfl) (hw env F.envOk)
  with_reducible refine wpAny_assign_Name ((F.gr g1).store x2 x1 x3 r1 fun s2 F2 => wpAny_assign_Name (F2.store y2 y1 y3 r1 fun s3 F3 => wpAny_assign_Name (F3.store z2 z1 z3 r1 fun s4 F4 => k s4 N1 F4)))
theorem setl {x : Str} {i e : Expr} {px p p' : Pos} {ds : List D} {d : D} {k' : Int} {cx' : Cx} (F : Fs G sc on B cx env s N) (rm : Rm A n) (he : Ev G n sc cx e d) (hi : Ev G n sc cx i (.int k')) (hin : ∀ q ∈ ((x, Ent.lst ds) :: cx'), q ∈ cx) (hx : (cx'.all fun p => p.1 != x) = true) (h0 : 0 ≤ k') (hf : k' < 2 ^ 63) (hlt : k'.toNat < ds.length)
    (k : ∀ s' N', Fs G sc on B ((x, .lst (ds.set k'.toNat d)) :: cx') env s' N' → Wp G A (execs rest env) Q E s')
    (hw : ∀ line env, EnvOk sc env → swapsWith e (some (Expr.Subscript (.Name x px) i p)) line env = Pure.pure false := by intro _ _ _; rfl) : Wp G A (execs (.Assign [.Subscript (.Name x px) i p] e p' :: rest) env) Q E s := by
  have hx' : ∀ p ∈ cx', p.1 ≠ x := fun p hp => by simpa using List.all_eq_true.mp hx p hp
  refine wseq ⟨?_⟩
  with_reducible refine wpAny_Assign_Subscript ((he.go A env s N rm F.toVw).go _ _ fun v s1 N1 g1 r1 => ?_) (hw _ _ F.envOk)
  have F1 := F.gr g1
  obtain ⟨al, g1', g2'⟩ := F1.lists
  obtain ⟨ws, i1, _⟩ := g1' x ds (hin _ (.head _))
  refine i1.name F1.fk ((hi.go A env s1 N1 rm F1.toVw).go _ _ fun iv s2 N2 g2 r2 => ?_)
  refine r2.eInt ?_; intro t
  have F2 := F1.gr g2
  obtain ⟨al2, h1, h2⟩ := F2.lists
  obtain ⟨ws2, j1, ⟨o, j2a, j2b, nn, j2c⟩, j3, j4⟩ := h1 x ds (hin _ (.head _))
  have ea : al x = al2 x := Value.ref.inj ((i1.keeps g2.keep).uniq j1)
  rw [ea]
  have hl2 := j3.length
  refine setItem_lst (l := al2 x) (items := ws2.toArray) ⟨o, j2a, j2b, nn, j2c⟩ h0 hf (by simp only [List.size_toArray]; lia) fun h' hl' hs' => ?_
  refine k { s2 with heap := h' } N2 ((F2.sub hin).setL (vs := ws2.set k'.toNat v) (tk := s2.toks) hx' j1 (by simpa using hl') (j3.set _ (r1.mono g2.le)) hs')
end
end Mine
end
section
set_option tactic.hygienic false
open PySem PySem.W PyProof.Rows
namespace Mine
section
variable {G : Gs} {n : Nat} {A : Around} {sc : Scope} {on : List Str} {B : Bse} {cx : Cx} {env : Env} {s : Shared} {N : Lg}
theorem keep_fresh {h h' : Heap} (x : Heap.ExtBut h.objs.size h h') : ∀ a o, h.get? a = some o → h'.get? a = some o := fun a o e =>
  x a o (fun q => by rw [q, Heap.get?_none_of_le (Nat.le_refl _)] at e; cases e) e
theorem Tgt.tuple2 {x y : Str} {p1 p2 p : Pos} {k : Nat} {d1 d2 : D} (hx : canSt sc on cx x = true) (hy : canSt sc on ((x, .imm d1) :: cx) y = true) : Tgt G sc on cx (.Tuple [.Name x p1, .Name y p2] k p) (.tuple [d1, d2]) [(y, .imm d2), (x, .imm d1)] := by
  obtain ⟨x1, x2, x3⟩ := canSt.all hx
  obtain ⟨y1, y2, y3⟩ := canSt.all hy
  refine ⟨fun A B env s N v hh F r Q E k => ?_⟩
  cases r with | tuple a1 a2 a3 a4 =>
    cases a4 with | cons r1 a4 => cases a4 with | cons r2 a4 => cases a4 with | nil =>
    refine wpAny_assign_Tuple hh ⟨_, F.hold _ _ a1, a2, _, a3⟩ rfl rfl fun h' hx' => ?_
    have F1 : Fs G sc on B cx env { s with heap := h' } N := F.gr (Gr.keeps F.toOk (keep_fresh hx') rfl rfl)
    show wpAny _ A (do holding [_] (assign (.Name x p1) env _); do holding [] (assign (.Name y p2) env _); pure ()) _ _ _
    refine wpAny_bind (wpAny_holding (wpAny_assign_Name (F1.store x2 x1 x3 r1 fun s2 F2 => ?_)))
    exact wpAny_bind (wpAny_holding (wpAny_assign_Name (F2.store y2 y1 y3 r2 fun s3 F3 => wpAny_pure (k s3 N F3))))
variable {Q : Flow → Shared → Prop} {E : Value → Shared → Prop} {rest : List Stmt}
theorem asgT2 {x y : Str} {p1 p2 p p' : Pos} {k' : Nat} {e : Expr} {d1 d2 : D} (F : Fs G sc on B cx env s N) (rm : Rm A n) (he : Ev G n sc cx e (.tuple [d1, d2])) (hx : canSt sc on cx x = true) (hy : canSt sc on ((x, .imm d1) :: cx) y = true)
    (k : ∀ s' N', Fs G sc on B ((y, .imm d2) :: (x, .imm d1) :: cx) env s' N' → Wp G A (execs rest env) Q E s')
    (hs : ∀ line env, EnvOk sc env → swapsWithSole [.Tuple [.Name x p1, .Name y p2] k' p] e line env = Pure.pure false := by intro _ _ _; rfl)
    (hw : ∀ env, EnvOk sc env → swappedStores [.Tuple [.Name x p1, .Name y p2] k' p] e env = Pure.pure none := by intro _ _; rfl) : Wp G A (execs (.Assign [.Tuple [.Name x p1, .Name y p2] k' p] e p' :: rest) env) Q E s := by
  refine wseq ⟨?_⟩
  with_reducible refine Assign_Tuple ((he.go A env s N rm F.toVw).go _ _ fun v s1 N1 g1 r1 => ?_) (hs _ _ F.envOk) (hw _ F.envOk)
  exact (Tgt.tuple2 hx hy).go A B env s1 N1 v rm.handled (F.gr g1) r1 _ _ fun s' N' F' => k s' N' F'
theorem asgTS {x y : Str} {p1 p2 p p' : Pos} {k' : Nat} {e : Expr} {d1 d2 : D} (F : Fs G sc on B cx env s N) (rm : Rm A n) (he : Ev G n sc cx e (.tuple [d1, d2])) (hy : canSt sc on cx y = true) (hx : canSt sc on ((y, .imm d2) :: cx) x = true)
    (k : ∀ s' N', Fs G sc on B ((x, .imm d1) :: (y, .imm d2) :: cx) env s' N' → Wp G A (execs rest env) Q E s')
    (hw : ∀ env, EnvOk sc env → swappedStores [.Tuple [.Name x p1, .Name y p2] k' p] e env = Pure.pure (some [x, y]))
    (hs : ∀ line env, EnvOk sc env → swapsWithSole [.Tuple [.Name x p1, .Name y p2] k' p] e line env = Pure.pure false := by intro _ _ _; rfl) : Wp G A (execs (.Assign [.Tuple [.Name x p1, .Name y p2] k' p] e p' :: rest) env) Q E s := by
  obtain ⟨x1, x2, x3⟩ := canSt.all hx
  obtain ⟨y1, y2, y3⟩ := canSt.all hy
  refine wseq ⟨?_⟩
  with_reducible refine Assign_Tuple_swapped ((he.go A env s N rm F.toVw).go _ _ fun v s1 N1 g1 r1 => ?_) (hs _ _ F.envOk) (hw _ F.envOk)
  have F0 := F.gr g1
  refine r1.eTup ?_; intro a o vs nn a1 a2 a3 a4; revert a3; refine a4.e2 ?_; intro v1 v2 r1 r2 a3
  have hT : Heap.IsTuple s1.heap a [v1, v2].toArray := ⟨_, F0.hold _ _ a1, a2, _, a3⟩
  show wpAny _ A (unpackItems (.ref a) [v1, v2].toArray.size none) _ _ _
  refine wpAny_unpackItems_tuple rm.handled hT fun h' hx' => ?_
  have F1 : Fs G sc on B cx env { s1 with heap := h' } N1 := F0.gr (Gr.keeps F0.toOk (keep_fresh hx') rfl rfl)
  show wpAny _ A (do holding [v1] (bindName env y v2); do holding [] (bindName env x v1); pure ()) _ _ _
  refine wpAny_bind (wpAny_holding (bindName_ (F1.store y2 y1 y3 r2 fun s2 F2 => ?_)))
  exact wpAny_bind (wpAny_holding (bindName_ (F2.store x2 x1 x3 r1 fun s3 F3 => wpAny_pure (k s3 N1 F3))))

theorem allc {α : Type} {P : α → Prop} {a : α} {l : List α} (h : P a) (t : ∀ x ∈ l, P x) : ∀ x ∈ a :: l, P x := List.forall_mem_cons.mpr ⟨h, t⟩
theorem alln {α : Type} {P : α → Prop} : ∀ x ∈ ([] : List α), P x := List.forall_mem_nil _
theorem nin4 {a b c d x : Addr} (h1 : x ≠ a) (h2 : x ≠ b) (h3 : x ≠ c) (h4 : x ≠ d) : x ∉ [a, b, c, d] := by simp [h1, h2, h3, h4]
theorem not4 {a b c d x : Addr} (h : x ∉ [a, b, c, d]) : x ≠ a ∧ x ≠ b ∧ x ≠ c ∧ x ≠ d := by simpa using h
theorem zip_wr {h : Heap} {m : Nat} (hm : h.objs.size = m) : ∀ b ∈ [m + 4, m + 3, m, m + 1], h.get? b = none ∧ b ≠ m + 2 := by
  have fr : ∀ a, m ≤ a → h.get? a = none := fun a e => Heap.get?_none_of_le (by rw [hm]; exact e)
  exact allc ⟨fr _ (Nat.le_add_right _ _), Nat.ne_of_gt (Nat.add_lt_add_left (by decide) _)⟩ (allc ⟨fr _ (Nat.le_add_right _ _), Nat.ne_of_gt (Nat.add_lt_add_left (by decide) _)⟩ (allc ⟨fr _ (Nat.le_refl _), Nat.ne_of_lt (Nat.lt_add_of_pos_right (by decide))⟩ (allc ⟨fr _ (Nat.le_add_right _ _), Nat.ne_of_lt (Nat.add_lt_add_left (by decide) _)⟩ alln)))
theorem fresh_out {s1 : Shared} {N1 : Lg} {m : Nat} {o : Obj} (hold : ∀ a o, N1 a o → s1.heap.get? a = some o) (hm : s1.heap.objs.size = m) : ∀ b ∈ [m + 4, m + 3, m, m + 1], ∀ q, ¬ (N1.add (m + 2) o) b q := fun b hb q e => by
  rcases e with e | e
  · have := hold _ _ e; rw [(zip_wr hm b hb).1] at this; cases this
  · exact (zip_wr hm b hb).2 e.1
theorem Itr.walks {I : Addr} {fp wr : List Addr} {m : Nat} {Pt : Nat → Array Value → Prop} {St : Nat → Heap → Prop} {Mid : Nat → Addr → Heap → Prop} {elts : List Expr} {k : Nat} {pos : Pos} {items : List D}
    (W : WalksT G.prog G.w A I fp wr m Pt St Mid) (hm : m = items.length) (hN : ∀ b ∈ fp, b ∉ wr → ∃ o, N b o) (hodd : ∀ i h, St i h → ∀ b ∈ wr, Odd h b)
    (hP : ∀ i vals d, items[i]? = some d → Pt i vals → ∃ ds, d = .tuple ds ∧ Rps N vals.toList ds) :
    Itr G A (.ref I) (.Tuple elts k pos) wr N items (fun i h => (∀ b ∈ wr, Odd h b) ∧ ∀ h', (∀ b ∈ wr, h'.get? b = h.get? b) → (∀ b o, N b o → h'.get? b = some o) → St i h') where
  frame := fun i h h' ⟨h1, h2⟩ hb => ⟨fun b hw => by obtain ⟨o, e, r⟩ := h1 b hw; exact ⟨o, (hb b hw).trans e, r⟩, fun h'' h3 h4 => h2 h'' (fun b hw => (h3 b hw).trans (hb b hw)) h4⟩
  odd := fun i h ⟨h1, _⟩ => h1
  next := fun i s N' d hd ⟨h1, h2⟩ ok hle hN' Q E q => by
    have hi : i < items.length := (List.getElem?_eq_some_iff.mp hd).1
    have st := h2 s.heap (fun _ _ => rfl) fun b o e => ok.hold _ _ (hle _ _ e)
    have up : ∀ {j : Nat} {h' h'' : Heap}, (∀ b ∈ wr, Odd h' b) → (∀ b o, N b o → h'.get? b = some o) → St j h' → (∀ b ∈ wr, h''.get? b = h'.get? b) → (∀ b o, N b o → h''.get? b = some o) → St j h'' := fun {j h' h''} ho hn st hw hn' => by
      refine W.frame j _ _ st fun b hb o e => ?_
      by_cases hw' : b ∈ wr
      · exact (hw b hw').trans e
      · obtain ⟨o', ho'⟩ := hN b hb hw'
        rw [hn b o' ho'] at e; cases e
        exact hn' b _ ho'
    refine W.item i s _ _ (by lia) st fun T vals h' tk hPt hle' hT hMid hk => ?_
    have hTw : T ∉ wr := W.apart i T h' hMid
    refine W.go elts k pos i T { s with heap := h', toks := tk } _ _ hMid fun h2' hst2 hk2 => ?_
    obtain ⟨ds, rfl, hr⟩ := hP i vals d hd hPt
    obtain ⟨oT, hoT, hcT, nT, hdT⟩ := hT
    have hT2 : h2'.get? T = some oT := hk2 T oT hTw hoT
    have hno : s.heap.get? T = none := Heap.get?_none_of_le hle'
    have keep : ∀ a o, a ∉ wr → s.heap.get? a = some o → h2'.get? a = some o := fun a o ha e => hk2 a o ha (hk a o ha e)
    have holdN : ∀ a o, N' a o → h2'.get? a = some o := fun a o e => keep a o (fun hw => hN' a hw o e) (ok.hold a o e)
    refine q (.ref T) { s with heap := h2', toks := tk } (N'.add T oT) ⟨keep, fun a o e => .inl e, fun a o e => e.elim .inl fun e => .inr (by rw [e.1]; exact hno), fun a o e => e.elim (holdN a o) fun e => by rw [e.1, e.2]; exact hT2, rfl, rfl⟩ ⟨hodd _ _ hst2, fun h'' hw hn => up (hodd _ _ hst2) (fun b o e => holdN b o (hle b o e)) hst2 hw hn⟩ (.tuple (Lg.add_self ..) hcT (by simpa using hdT) (hr.mono fun a o e => .inl (hle a o e)))
  stop := fun s N' ⟨h1, h2⟩ ok hle hN' Q E q => by
    have st := h2 s.heap (fun _ _ => rfl) fun b o e => ok.hold _ _ (hle _ _ e)
    rw [← hm] at st
    refine W.done s _ _ st fun h' tk hk => ?_
    exact q { s with heap := h', toks := tk } ⟨hk, fun _ _ e => e, fun _ _ e => .inl e, fun a o e => hk a o (fun hw => hN' a hw o e) (ok.hold a o e), rfl, rfl⟩
  self := fun i s Q E hh ⟨h1, h2⟩ q => W.self i s _ _ (h2 s.heap (fun _ _ => rfl) hh) q

theorem odd_rec {h : Heap} {b : Addr} {cls : Value} {d : Option Addr} {vs : Array Value} {sl : Array (Option Value)} (e : h.get? b = some { cls := cls, dict := d, data := .fields vs, slots := sl }) (hc : cls ≠ .type "list") : Odd h b := odd_of e rfl hc
theorem odd_listiter {h : Heap} {b l : Addr} {i : Nat} (x : h.IsListIter b l i) : Odd h b := let ⟨o, e, c, d⟩ := x; odd_of e d (by rw [c]; decide)
theorem odd_striter {h : Heap} {b : Addr} {x : Str} {t : Tok} {i : Nat} (y : h.IsStrIter b "str_ascii_iterator" x t i) : Odd h b := let ⟨o, e, c, d⟩ := y; odd_of e d (by rw [c]; decide)
theorem odd_pair {h : Heap} {b : Addr} {x y : Value} (e : IsPair h b x y) : Odd h b := ⟨_, e, fun _ _ => by simp, fun _ => by simp, by simp⟩
noncomputable def pairD (a b : D) : D := .tuple [a, b]
noncomputable def enumD (ds : List D) : List D := (List.range ds.length).zip ds |>.map fun p => pairD (.int p.1) p.2
theorem EvI.enum {x : Str} {e : Expr} {p pos p2 : Pos} {elts : List Expr} {k' : Nat} {ds : List D} (hn : Nm G sc x (.type "enumerate")) (he : Ev G n sc cx e (.list ds)) (hst : ∀ env, starEach [e] env = (false, eval e env) :: starEach [] env := by intro _; rfl) :
    EvI G n sc cx (.Call (.Name x p) [e] [] pos) (.Tuple elts k' p2) (enumD ds) := by
  refine ⟨fun A env s N rm z Q E q => ?_⟩
  with_reducible refine wpAny_Call_NameR (hn.eval z (PyProof.Rows.callWith_type1 ?_ (hst env) (by with_unfolding_all rfl)))
  refine (EvL.cons he .nil hst).go A env s N pos rm z _ _ fun vs s1 N1 g1 r1 => ?_
  refine r1.e1 ?_; intro v r1; refine r1.eList ?_; intro l o vs nn a1 a2 a3 a4
  have ok1 := (z.gr g1).toOk
  have hL : s1.heap.IsList l vs.toArray := ⟨_, ok1.hold _ _ a1, a2, _, a3⟩
  have hl := a4.length
  refine call_enumerate_list hL fun h' he' hit hsz hk => ?_
  have g2 : Gr s1 N1 { s1 with heap := h' } N1 := Gr.keeps ok1 hk rfl rfl
  have lt : l < s1.heap.objs.size := Heap.lt_size (ok1.hold _ _ a1)
  have fr : ∀ a, s1.heap.objs.size ≤ a → s1.heap.get? a = none := fun a e => Heap.get?_none_of_le e
  have hL' : h'.IsList l vs.toArray := ⟨_, hk _ _ (ok1.hold _ _ a1), a2, _, a3⟩
  have W := WalksT.enumerateD (prog := G.prog) (w := G.w) (Draws.list (A := A.in1) rm.handled s1.heap.objs.size l (Nat.ne_of_lt lt) vs.toArray) (s1.heap.objs.size + 1) (Nat.succ_ne_self _) (fun h => (List.mem_cons.mp h).elim (fun h => Nat.succ_ne_self _ h) fun h => Nat.ne_of_gt (Nat.lt_succ_of_lt lt) (List.mem_singleton.mp h)) (.head _)
  have wrN : ∀ b ∈ [s1.heap.objs.size + 1, s1.heap.objs.size], s1.heap.get? b = none := fun b hb => by
    simp only [List.mem_cons, List.not_mem_nil, or_false] at hb
    rcases hb with rfl | rfl
    · exact fr _ (Nat.le_succ _)
    · exact fr _ (Nat.le_refl _)
  refine wpAny_pyIter_enum he' ?_
  refine q (.ref (s1.heap.objs.size + 1)) _ _ N1 _ (g1.trans g2) (fun b hb => none_of_keep g1.keep (wrN b hb)) (fun b hb o e => by have := ok1.hold _ _ e; rw [wrN b hb] at this; cases this)
    (Itr.walks W (by simp [enumD, hl]) (fun b hb hw => ?_) (fun i h st b hb => ?_) fun i vals d hd hp => ?_) ⟨?_, fun h'' hw hn => ?_⟩
  · simp only [List.mem_cons, List.not_mem_nil, or_false, not_or] at hb hw
    rcases hb with rfl | rfl | rfl
    · exact absurd rfl hw.1
    · exact absurd rfl hw.2
    · exact ⟨_, a1⟩
  · obtain ⟨⟨old, h1⟩, h2, _⟩ := st
    simp only [List.mem_cons, List.not_mem_nil, or_false] at hb
    rcases hb with rfl | rfl
    · exact odd_rec h1 (by decide)
    · exact odd_listiter h2
  · obtain ⟨t, v, hv, rfl⟩ := hp
    simp only [enumD, List.getElem?_map] at hd
    obtain ⟨pr, h1, h2⟩ := Option.map_eq_some_iff.mp hd
    rw [List.getElem?_zip_eq_some] at h1
    obtain ⟨h3, h4⟩ := h1
    have hi : i < ds.length := by simpa using (List.getElem?_eq_some_iff.mp h3).1
    rw [List.getElem?_range hi] at h3
    have hpi : pr.1 = i := (Option.some.inj h3).symm
    obtain ⟨v', hv', r⟩ := a4.get h4
    have : v' = v := by rw [List.getElem?_toArray, hv'] at hv; exact Option.some.inj hv
    subst this
    refine ⟨[.int pr.1, pr.2], h2.symm, ?_⟩
    rw [hpi]
    exact .cons (.int _ _) (.one r)
  · intro b hb
    simp only [List.mem_cons, List.not_mem_nil, or_false] at hb
    rcases hb with rfl | rfl
    · exact odd_rec he' (by decide)
    · exact odd_listiter hit
  · refine ⟨⟨.none, (hw _ (by simp)).trans he'⟩, ?_, ?_⟩
    · obtain ⟨o', e', r'⟩ := hit; exact ⟨o', (hw _ (by simp)).trans e', r'⟩
    · exact ⟨_, hn _ _ a1, a2, _, a3⟩
noncomputable def zipD (ds es : List D) : List D := (ds.zip es).map fun p => pairD p.1 p.2
theorem EvI.zip {x : Str} {e e' : Expr} {p pos p2 : Pos} {elts : List Expr} {k' : Nat} {ds es : List D} (hn : Nm G sc x (.type "zip")) (he : Ev G n sc cx e (.list ds)) (he' : Ev G n sc cx e' (.list es)) (hst : ∀ env, starEach [e, e'] env = (false, eval e env) :: starEach [e'] env := by intro _; rfl) (hst' : ∀ env, starEach [e'] env = (false, eval e' env) :: starEach [] env := by intro _; rfl) :
    EvI G n sc cx (.Call (.Name x p) [e, e'] [] pos) (.Tuple elts k' p2) (zipD ds es) := by
  refine ⟨fun A env s N rm z Q E q => ?_⟩
  with_reducible refine wpAny_Call_NameR (hn.eval z (PyProof.Rows.callWith_type1 ?_ (hst env) (by rw [hst']; with_unfolding_all rfl)))
  refine (EvL.cons he (EvL.cons he' .nil hst') hst).go A env s N pos rm z _ _ fun vs s1 N1 g1 r1 => ?_
  refine r1.e2 ?_; intro v v' r1 r2; refine r1.eList ?_; intro l1 o1 vs n1 a1 a2 a3 a4; refine r2.eList ?_; intro l2 o2 ws n2 b1 b2 b3 b4
  have ok1 := (z.gr g1).toOk
  have hL1 : s1.heap.IsList l1 vs.toArray := ⟨_, ok1.hold _ _ a1, a2, _, a3⟩
  have hL2 : s1.heap.IsList l2 ws.toArray := ⟨_, ok1.hold _ _ b1, b2, _, b3⟩
  have hl := a4.length
  have hl' := b4.length
  have lt1 : l1 < s1.heap.objs.size := Heap.lt_size (ok1.hold _ _ a1)
  have lt2 : l2 < s1.heap.objs.size := Heap.lt_size (ok1.hold _ _ b1)
  generalize hm : s1.heap.objs.size = m at lt1 lt2
  refine call_zip_2 hL1 hL2 ?_
  rw [hm]
  intro h' hz hTI hTO hi1 hi2 hsz hk
  have g2 : Gr s1 N1 { s1 with heap := h' } N1 := Gr.keeps ok1 hk rfl rfl
  have g3 := g2.freeze (Heap.get?_none_of_le (by rw [hm]; exact Nat.le_add_right _ _)) hTI
  have W := WalksT.zip2 (prog := G.prog) (w := G.w) (A := A) rm.handled (m + 4) (m + 2) (m + 3) m (m + 1) l1 l2 (zipApart_new lt1 lt2) vs.toArray ws.toArray
  refine wpAny_pyIter_zip hz ?_
  refine q (.ref (m + 4)) _ _ _ _ (g1.trans g3) (fun b hb => none_of_keep g1.keep (zip_wr hm b hb).1) (fresh_out ok1.hold hm)
    (Itr.walks W (by simp [zipD, hl, hl']) (allc (fun h => absurd (.head _) h) (allc (fun _ => ⟨_, Lg.add_self ..⟩) (allc (fun h => absurd (.tail _ (.head _)) h) (allc (fun h => absurd (.tail _ (.tail _ (.head _))) h) (allc (fun h => absurd (.tail _ (.tail _ (.tail _ (.head _)))) h) (allc (fun _ => ⟨_, .inl a1⟩) (allc (fun _ => ⟨_, .inl b1⟩) alln))))))) (fun i h st => have ⟨_, _, h3⟩ := st.2.2.1; allc (odd_rec st.1 (by decide)) (allc (odd_pair h3) (allc (odd_listiter st.2.2.2.1) (allc (odd_listiter st.2.2.2.2.1) alln)))) fun i vals d hd hp => ?_) ⟨allc (odd_rec hz (by decide)) (allc (odd_pair hTO) (allc (odd_listiter hi1) (allc (odd_listiter hi2) alln))), fun h'' hw hn => ?_⟩
  · obtain ⟨v, w, hv, hw, rfl⟩ := hp
    simp only [zipD, List.getElem?_map] at hd
    obtain ⟨pr, h1, h2⟩ := Option.map_eq_some_iff.mp hd
    rw [List.getElem?_zip_eq_some] at h1
    obtain ⟨v', hv', r⟩ := a4.get h1.1
    obtain ⟨w', hw', r'⟩ := b4.get h1.2
    have : v' = v := by rw [List.getElem?_toArray, hv'] at hv; exact Option.some.inj hv
    subst this
    have : w' = w := by rw [List.getElem?_toArray, hw'] at hw; exact Option.some.inj hw
    subst this
    exact ⟨[pr.1, pr.2], h2.symm, .cons (r.mono (Lg.add_le _ _ _)) (.one (r'.mono (Lg.add_le _ _ _)))⟩
  · have li : ∀ {b l i}, b ∈ [m + 4, m + 3, m, m + 1] → h'.IsListIter b l i → h''.IsListIter b l i := fun hb ⟨o', e', r'⟩ => ⟨o', (hw _ hb).trans e', r'⟩
    exact ⟨(hw _ (.head _)).trans hz, hn _ _ (Lg.add_self ..), ⟨_, _, (hw _ (.tail _ (.head _))).trans hTO⟩, li (.tail _ (.tail _ (.head _))) hi1, li (.tail _ (.tail _ (.tail _ (.head _)))) hi2, ⟨_, hn _ _ (.inl a1), a2, _, a3⟩, ⟨_, hn _ _ (.inl b1), b2, _, b3⟩⟩
end
end Mine
end
section
set_option tactic.hygienic false
open PySem PySem.W PyProof.Rows
set_option maxRecDepth 100000
namespace Mine
structure ZipSp (z TI TO i1 i2 l1 : Addr) : Prop where
  TIz : TI ≠ z
  TOz : TO ≠ z
  i1z : i1 ≠ z
  i2z : i2 ≠ z
  TITO : TI ≠ TO
  TIi1 : TI ≠ i1
  TIi2 : TI ≠ i2
  TOi1 : TO ≠ i1
  TOi2 : TO ≠ i2
  i12 : i1 ≠ i2
  l1z : l1 ≠ z
  l1TO : l1 ≠ TO
  l1i1 : l1 ≠ i1
  l1i2 : l1 ≠ i2
theorem zipSp_new {n l1 : Addr} (h1 : l1 < n) : ZipSp (n + 4) (n + 2) (n + 3) n (n + 1) l1 := by
  have Z := zipApart_new h1 h1
  exact ⟨Z.TIz, Z.TOz, Z.i1z, Z.i2z, Z.TITO, Z.TIi1, Z.TIi2, Z.TOi1, Z.TOi2, Z.i12, Z.l1z, Z.l1TO, Z.l1i1, Z.l1i2⟩
theorem stri_ext {h h' : Heap} {a b : Addr} {x : Str} {t : Tok} {i : Nat} (y : h.IsStrIter a "str_ascii_iterator" x t i) (hs : Heap.ExtBut b h h') (hab : a ≠ b) : h'.IsStrIter a "str_ascii_iterator" x t i := let ⟨o, e, r⟩ := y; ⟨o, hs a o hab e, r⟩
section
variable {prog : Program} {w : World} {A : Around} {E : Value → Shared → Prop} {s : Shared}
theorem zipLS_item {z TI TO i1 i2 l1 : Addr} {k1 k2 c : Nat} {xs : Array Value} {y : Str} {ty : Tok} {x a b : Value} {Q : Value → Shared → Prop} (D : ZipSp z TI TO i1 i2 l1)
    (hz : IsZip s.heap z TI TO .none) (hTI : IsPair s.heap TI (.ref i1) (.ref i2)) (hTO : IsPair s.heap TO a b)
    (h1 : s.heap.IsListIter i1 l1 k1) (h2 : s.heap.IsStrIter i2 "str_ascii_iterator" y ty k2) (hl1 : s.heap.IsList l1 xs) (hx : xs[k1]? = some x) (hy : y.cps[k2]? = some c)
    (hQ : ∀ h' t tk, IsZip h' z TI TO (rawInt s.heap.objs.size) → IsPair h' TO x (.str ⟨#[c]⟩ t) → h'.IsListIter i1 l1 (k1 + 1) → h'.IsStrIter i2 "str_ascii_iterator" y ty (k2 + 1) → IsPair h' s.heap.objs.size x (.str ⟨#[c]⟩ t) → h'.objs.size = s.heap.objs.size + 1 →
      (∀ c o, c ≠ z → c ≠ TO → c ≠ i1 → c ≠ i2 → s.heap.get? c = some o → h'.get? c = some o) → Q (.ref s.heap.objs.size) { s with heap := h', toks := tk }) :
    wpAny (model prog w) A (Builtin.«zip.__next__» ⟨[.ref z], []⟩) (fun fin s' => ∃ v, fin = .done (.ret v) ∧ Q v s') E s := by
  show wpAny _ _ (field (.ref z) 2 >>= _) _ _ _
  refine wpAny_bind (wpAny_field hz rfl (x := .bool false) rfl ?_)
  show wpAny _ _ (field (.ref z) 3 >>= _) _ _ _
  refine wpAny_bind (wpAny_field hz rfl (x := .ref TI) rfl ?_)
  refine wpAny_bind (wpAny_seqItems hTI rfl ?_)
  show wpAny _ _ (Builtin.SmallTypes.ownedTupleIsFree (.ref z) >>= _) _ _ _
  refine wpAny_bind ?_
  unfold Builtin.SmallTypes.ownedTupleIsFree
  refine wpAny_bind (wpAny_field hz rfl (x := .none) rfl (wpAny_pure ?_))
  simp only [if_true]
  refine wpAny_bind (wpAny_rule ?_)
  refine wpAny_bind (wpAny_field hz rfl (x := .ref TO) rfl ?_)
  refine wpAny_bind (wpAny_setField_rec hz (by simp) fun h₁ hz₁ hs₁ => ?_)
  replace hz₁ : IsZip h₁ z TI TO .ellipsis := hz₁
  refine wpAny_bind ?_
  simp only [List.zipIdx_cons, List.zipIdx_nil, List.forIn_cons, List.forIn_nil]
  refine wpAny_bind (wpAny_bind (wpAny_onRaise ?_))
  show wpAny _ _ (Builtin.SmallTypes.nextOf (.ref i1) >>= _) _ _ _
  refine wpAny_bind (wpAny_nextOf_list_item (h1.extBut hs₁.extBut D.i1z) (hl1.extBut hs₁.extBut D.l1z) hx fun h₂ h1₂ hs₂ => wpAny_pure ?_)
  have hTO₂ : IsPair h₂ TO a b := hs₂.extBut _ _ D.TOi1 (hs₁.extBut _ _ D.TOz hTO)
  refine wpAny_bind (wpAny_seqItems hTO₂ rfl ?_)
  refine wpAny_bind (wpAny_updateSeq_pair hTO₂ fun h₃ hTO₃ hs₃ => ?_)
  replace hTO₃ : IsPair h₃ TO x b := hTO₃
  refine wpAny_bind (wpAny_letGo (wpAny_pure ?_))
  refine wpAny_bind (wpAny_bind (wpAny_onRaise ?_))
  show wpAny _ _ (Builtin.SmallTypes.nextOf (.ref i2) >>= _) _ _ _
  refine wpAny_bind (wpAny_nextOf_ascii_item (stri_ext (stri_ext (stri_ext h2 hs₁.extBut D.i2z) hs₂.extBut D.i12.symm) hs₃.extBut D.TOi2.symm) hy fun h₄ h2₄ hs₄ => wpAny_pure ?_)
  have hTO₄ : IsPair h₄ TO x b := hs₄.extBut _ _ D.TOi2 hTO₃
  refine wpAny_bind (wpAny_seqItems hTO₄ rfl ?_)
  generalize hy' : Value.str ⟨#[c]⟩ _ = yv
  refine wpAny_bind (wpAny_updateSeq_pair hTO₄ fun h₅ hTO₅ hs₅ => ?_)
  replace hTO₅ : IsPair h₅ TO x yv := hTO₅
  refine wpAny_bind (wpAny_letGo (wpAny_pure (wpAny_pure ?_)))
  refine wpAny_bind (wpAny_seqItems hTO₅ rfl ?_)
  refine wpAny_bind (wpAny_newTuple ?_)
  have hsz : h₅.objs.size = s.heap.objs.size := by rw [hs₅.1, hs₄.1, hs₃.1, hs₂.1, hs₁.1]
  have hz₅ : IsZip h₅ z TI TO .ellipsis := hs₅.extBut _ _ D.TOz.symm (hs₄.extBut _ _ D.i2z.symm (hs₃.extBut _ _ D.TOz.symm (hs₂.extBut _ _ D.i1z.symm hz₁)))
  have hk₅ : ∀ c o, c ≠ z → c ≠ TO → c ≠ i1 → c ≠ i2 → s.heap.get? c = some o → h₅.get? c = some o := fun c o c1 c2 c3 c4 e =>
    hs₅.extBut _ _ c2 (hs₄.extBut _ _ c4 (hs₃.extBut _ _ c2 (hs₂.extBut _ _ c3 (hs₁.extBut _ _ c1 e))))
  have h1₅ : h₅.IsListIter i1 l1 (k1 + 1) := ((h1₂.extBut hs₃.extBut D.TOi1.symm).extBut hs₄.extBut D.i12).extBut hs₅.extBut D.TOi1.symm
  have h2₅ : h₅.IsStrIter i2 "str_ascii_iterator" y ty (k2 + 1) := stri_ext h2₄ hs₅.extBut D.TOi2.symm
  have hzlt : z < h₅.objs.size := Heap.lt_size hz₅
  show wpAny _ _ (Builtin.SmallTypes.ownedTupleHandOut (.ref z) (.ref h₅.objs.size) >>= _) _ _ _
  refine wpAny_bind ?_
  unfold Builtin.SmallTypes.ownedTupleHandOut
  have hz₆ : IsZip (h₅.push { cls := .type "tuple", data := .seq #[x, yv] }) z TI TO .ellipsis := Heap.get?_push_of_some _ hz₅
  refine wpAny_bind (wpAny_setField_rec hz₆ (by simp) fun h₇ hz₇ hs₇ => ?_)
  replace hz₇ : IsZip h₇ z TI TO (rawInt h₅.objs.size) := hz₇
  refine wpAny_setField_rec hz₇ (by simp) fun h₈ hz₈ hs₈ => ?_
  replace hz₈ : IsZip h₈ z TI TO (rawInt h₅.objs.size) := hz₈
  have up : ∀ c o, c ≠ z → h₅.get? c = some o → h₈.get? c = some o := fun c o c1 e => hs₈.extBut _ _ c1 (hs₇.extBut _ _ c1 (Heap.get?_push_of_some _ e))
  have hT₈ : IsPair h₈ h₅.objs.size x yv := hs₈.extBut _ _ (Nat.ne_of_gt hzlt) (hs₇.extBut _ _ (Nat.ne_of_gt hzlt) (Heap.get?_push_size _ rfl))
  have hz8 : h₈.objs.size = h₅.objs.size + 1 := by rw [hs₈.1, hs₇.1, Heap.size_push]
  rw [hsz] at hz₈ hT₈ hz8
  refine wpAny_pure ⟨_, rfl, ?_⟩
  show Q (.ref h₅.objs.size) _
  rw [hsz]
  subst hy'
  exact hQ h₈ _ _ hz₈ (up _ _ D.TOz hTO₅) (h1₅.at fun o e => up _ o D.i1z e) (let ⟨o, e, r⟩ := h2₅; ⟨o, up _ o D.i2z e, r⟩) hT₈ hz8 fun c o c1 c2 c3 c4 e => up c o c1 (hk₅ c o c1 c2 c3 c4 e)
theorem zipLS_end {z TI TO i1 i2 l1 : Addr} {k1 k2 : Nat} {xs : Array Value} {y : Str} {ty : Tok} {a b : Value} {Q : Fin → Shared → Prop} (hh : A.handled = none) (D : ZipSp z TI TO i1 i2 l1)
    (hz : IsZip s.heap z TI TO .none) (hTI : IsPair s.heap TI (.ref i1) (.ref i2)) (hTO : IsPair s.heap TO a b)
    (h1 : s.heap.IsListIter i1 l1 k1) (h2 : s.heap.IsStrIter i2 "str_ascii_iterator" y ty k2) (hl1 : s.heap.IsList l1 xs) (hend : xs[k1]? = none ∨ y.cps[k2]? = none)
    (hE : ∀ h' tk e, (∀ c o, c ≠ z → c ≠ TO → c ≠ i1 → c ≠ i2 → s.heap.get? c = some o → h'.get? c = some o) → (∃ o, h'.get? e = some o ∧ o.cls = .type "StopIteration") → E (.ref e) { s with heap := h', toks := tk }) :
    wpAny (model prog w) A (Builtin.«zip.__next__» ⟨[.ref z], []⟩) Q E s := by
  show wpAny _ _ (field (.ref z) 2 >>= _) _ _ _
  refine wpAny_bind (wpAny_field hz rfl (x := .bool false) rfl ?_)
  show wpAny _ _ (field (.ref z) 3 >>= _) _ _ _
  refine wpAny_bind (wpAny_field hz rfl (x := .ref TI) rfl ?_)
  refine wpAny_bind (wpAny_seqItems hTI rfl ?_)
  show wpAny _ _ (Builtin.SmallTypes.ownedTupleIsFree (.ref z) >>= _) _ _ _
  refine wpAny_bind ?_
  unfold Builtin.SmallTypes.ownedTupleIsFree
  refine wpAny_bind (wpAny_field hz rfl (x := .none) rfl (wpAny_pure ?_))
  simp only [if_true]
  refine wpAny_bind (wpAny_rule ?_)
  refine wpAny_bind (wpAny_field hz rfl (x := .ref TO) rfl ?_)
  refine wpAny_bind (wpAny_setField_rec hz (by simp) fun h₁ hz₁ hs₁ => ?_)
  replace hz₁ : IsZip h₁ z TI TO .ellipsis := hz₁
  refine wpAny_bind ?_
  simp only [List.zipIdx_cons, List.zipIdx_nil, List.forIn_cons, List.forIn_nil]
  refine wpAny_bind (wpAny_bind (wpAny_onRaise ?_))
  show wpAny _ _ (Builtin.SmallTypes.nextOf (.ref i1) >>= _) _ _ _
  cases hx : xs[k1]? with
  | none =>
    refine wpAny_bind (wpAny_nextOf_list_end hh (h1.extBut hs₁.extBut D.i1z) (hl1.extBut hs₁.extBut D.l1z) hx fun h₂ e hs₂ he => ?_)
    obtain ⟨oe, hoe, hce⟩ := he
    have hz₂ : IsZip h₂ z TI TO .ellipsis := hs₂ _ _ D.i1z.symm hz₁
    have hez : e ≠ z := fun x => by subst x; rw [hz₂] at hoe; cases hoe; simp at hce
    refine wpAny_setField_rec hz₂ (by simp) fun h₃ _ hs₃ => hE h₃ _ e (fun c o c1 _ c3 _ x => hs₃.extBut _ _ c1 (hs₂ _ _ c3 (hs₁.extBut _ _ c1 x))) ⟨oe, hs₃.extBut _ _ hez hoe, hce⟩
  | some x =>
    have hy : y.cps[k2]? = none := by rcases hend with h | h; rw [hx] at h; cases h; exact h
    refine wpAny_bind (wpAny_nextOf_list_item (h1.extBut hs₁.extBut D.i1z) (hl1.extBut hs₁.extBut D.l1z) hx fun h₂ h1₂ hs₂ => wpAny_pure ?_)
    have hTO₂ : IsPair h₂ TO a b := hs₂.extBut _ _ D.TOi1 (hs₁.extBut _ _ D.TOz hTO)
    refine wpAny_bind (wpAny_seqItems hTO₂ rfl ?_)
    refine wpAny_bind (wpAny_updateSeq_pair hTO₂ fun h₃ hTO₃ hs₃ => ?_)
    refine wpAny_bind (wpAny_letGo (wpAny_pure ?_))
    refine wpAny_bind (wpAny_bind (wpAny_onRaise ?_))
    show wpAny _ _ (Builtin.SmallTypes.nextOf (.ref i2) >>= _) _ _ _
    refine wpAny_bind (wpAny_nextOf_ascii_end hh (stri_ext (stri_ext (stri_ext h2 hs₁.extBut D.i2z) hs₂.extBut D.i12.symm) hs₃.extBut D.TOi2.symm) hy fun h₄ e hs₄ he => ?_)
    obtain ⟨oe, hoe, hce⟩ := he
    have hz₄ : IsZip h₄ z TI TO .ellipsis := hs₄ _ _ D.i2z.symm (hs₃.extBut _ _ D.TOz.symm (hs₂.extBut _ _ D.i1z.symm hz₁))
    have hez : e ≠ z := fun x => by subst x; rw [hz₄] at hoe; cases hoe; simp at hce
    refine wpAny_setField_rec hz₄ (by simp) fun h₅ _ hs₅ => hE h₅ _ e (fun c o c1 c2 c3 c4 x => hs₅.extBut _ _ c1 (hs₄ _ _ c4 (hs₃.extBut _ _ c2 (hs₂.extBut _ _ c3 (hs₁.extBut _ _ c1 x))))) ⟨oe, hs₅.extBut _ _ hez hoe, hce⟩
theorem walks_zipLS (hh : A.handled = none) (z TI TO i1 i2 l1 : Addr) (D : ZipSp z TI TO i1 i2 l1) (xs : Array Value) (y : Str) (ty : Tok) :
    WalksT prog w A z [z, TI, TO, i1, i2, l1] [z, TO, i1, i2] (min xs.size y.cps.size)
      (fun i vals => ∃ x c t, xs[i]? = some x ∧ y.cps[i]? = some c ∧ vals = #[x, .str ⟨#[c]⟩ t])
      (fun i h => IsZip h z TI TO .none ∧ IsPair h TI (.ref i1) (.ref i2) ∧ (∃ a b, IsPair h TO a b) ∧ h.IsListIter i1 l1 i ∧ h.IsStrIter i2 "str_ascii_iterator" y ty i ∧ h.IsList l1 xs)
      (fun i T h => IsZip h z TI TO (rawInt T) ∧ IsPair h TI (.ref i1) (.ref i2) ∧ (∃ a b, IsPair h TO a b) ∧ h.IsListIter i1 l1 (i + 1) ∧ h.IsStrIter i2 "str_ascii_iterator" y ty (i + 1) ∧ h.IsList l1 xs ∧
        T ≠ z ∧ T ≠ TO ∧ T ≠ i1 ∧ T ≠ i2) where
  sub := allc (.head _) (allc (.tail _ (.tail _ (.head _))) (allc (.tail _ (.tail _ (.tail _ (.head _)))) (allc (.tail _ (.tail _ (.tail _ (.tail _ (.head _))))) alln)))
  frame := fun i h h' hst hk => by
    obtain ⟨hz, hTI, ⟨a, b, hTO⟩, h1, ⟨o2, e2, r2⟩, hl1⟩ := hst
    exact ⟨hk z (.head _) _ hz, hk TI (.tail _ (.head _)) _ hTI, ⟨a, b, hk TO (.tail _ (.tail _ (.head _))) _ hTO⟩, h1.at fun o e => hk i1 (.tail _ (.tail _ (.tail _ (.head _)))) o e, ⟨o2, hk i2 (.tail _ (.tail _ (.tail _ (.tail _ (.head _))))) _ e2, r2⟩,
      hl1.at fun o e => hk l1 (.tail _ (.tail _ (.tail _ (.tail _ (.tail _ (.head _)))))) o e⟩
  item := fun i s Q E hi hst hQ => by
    obtain ⟨hz, hTI, ⟨a, b, hTO⟩, h1, h2, hl1⟩ := hst
    have hix : i < xs.size := Nat.lt_of_lt_of_le hi (Nat.min_le_left ..)
    have hiy : i < y.cps.size := Nat.lt_of_lt_of_le hi (Nat.min_le_right ..)
    have hT : s.TypeIs (.ref z) "zip" := ⟨_, hz, rfl⟩
    unfold pyNext
    refine wpAny_bind (wpAny_attempt (wpAny_callSpecial?_slot (name := Str.ofString "__next__") hT F.slot_zip_next
      (wpAny_call_entry F.slot_zip_next hT F.entry_zip_next
        (zipLS_item D hz hTI hTO h1 h2 hl1 (Array.getElem?_eq_getElem hix) (Array.getElem?_eq_getElem hiy) fun h' t tk a1 a2 a3 a4 a5 a6 hk => ?_) (F.args_zip_next_1 _))))
    have lt : ∀ {c o}, s.heap.get? c = some o → s.heap.objs.size ≠ c := fun e => Nat.ne_of_gt (Heap.lt_size e)
    exact wpAny_pure (hQ s.heap.objs.size #[xs[i], .str ⟨#[y.cps[i]]⟩ t] h' tk ⟨_, _, _, Array.getElem?_eq_getElem hix, Array.getElem?_eq_getElem hiy, rfl⟩ (Nat.le_refl _) ⟨_, a5, rfl, _, rfl⟩
      ⟨a1, hk _ _ D.TIz D.TITO D.TIi1 D.TIi2 hTI, ⟨_, _, a2⟩, a3, a4, hl1.at fun o e => hk _ o D.l1z D.l1TO D.l1i1 D.l1i2 e,
        lt hz, lt hTO, (by obtain ⟨_, e, _⟩ := h1; exact lt e), (by obtain ⟨_, e, _⟩ := h2; exact lt e)⟩
      fun c o hc e => hk c o (not4 hc).1 (not4 hc).2.1 (not4 hc).2.2.1 (not4 hc).2.2.2 e)
  go := fun elts k pos i T s Q E hm hQ => by
    obtain ⟨hz, hTI, ⟨a, b, hTO⟩, h1, ⟨o2, e2, r2⟩, hl1, _⟩ := hm
    refine wpAny_letOwnedTupleGo_zip hz fun h' hz' hs' => hQ h' ⟨hz', hs'.extBut _ _ D.TIz hTI, ⟨a, b, hs'.extBut _ _ D.TOz hTO⟩, h1.extBut hs'.extBut D.i1z, ⟨o2, hs'.extBut _ _ D.i2z e2, r2⟩,
      hl1.extBut hs'.extBut D.l1z⟩ fun c o hc e => hs'.extBut _ _ (not4 hc).1 e
  apart := fun i T h hm => nin4 hm.2.2.2.2.2.2.1 hm.2.2.2.2.2.2.2.1 hm.2.2.2.2.2.2.2.2.1 hm.2.2.2.2.2.2.2.2.2
  done := fun s Q E hst hQ => by
    obtain ⟨hz, hTI, ⟨a, b, hTO⟩, h1, h2, hl1⟩ := hst
    have hend : xs[min xs.size y.cps.size]? = none ∨ y.cps[min xs.size y.cps.size]? = none := by
      rcases Nat.le_total xs.size y.cps.size with h | h
      · exact .inl (by rw [Nat.min_eq_left h]; exact Array.getElem?_eq_none (Nat.le_refl _))
      · exact .inr (by rw [Nat.min_eq_right h]; exact Array.getElem?_eq_none (Nat.le_refl _))
    have hT : s.TypeIs (.ref z) "zip" := ⟨_, hz, rfl⟩
    unfold pyNext
    refine wpAny_bind (wpAny_attempt (wpAny_callSpecial?_slot (name := Str.ofString "__next__") hT F.slot_zip_next
      (wpAny_call_entry F.slot_zip_next hT F.entry_zip_next (zipLS_end hh D hz hTI hTO h1 h2 hl1 hend fun h' tk e hk he => ?_) (F.args_zip_next_1 _))))
    obtain ⟨o, ho, hc⟩ := he
    refine wpAny_bind (wpAny_isInstance (T := "StopIteration") (b := true) ⟨o, ho, hc⟩ isSubtype_stop ?_)
    exact wpAny_pure (hQ h' tk fun c o hc e =>
      hk c o (not4 hc).1 (not4 hc).2.1 (not4 hc).2.2.1 (not4 hc).2.2.2 e)
  self := fun i s Q E hst hQ => wpAny_pyIter_zip hst.1 hQ
noncomputable abbrev zipS2 (h : Heap) (l1 : Addr) (y : Str) (ty : Tok) : Heap := (zipH1 h l1).push { cls := .type "str_ascii_iterator", data := .fields #[.str y ty, .int 0 0] }
noncomputable abbrev zipS3 (h : Heap) (l1 : Addr) (y : Str) (ty : Tok) : Heap := (zipS2 h l1 y ty).push { cls := .type "tuple", data := .seq #[.ref h.objs.size, .ref (zipH1 h l1).objs.size] }
noncomputable abbrev zipS4 (h : Heap) (l1 : Addr) (y : Str) (ty : Tok) : Heap := (zipS3 h l1 y ty).push { cls := .type "tuple", data := .seq #[.none, .none] }
noncomputable abbrev zipS5 (h : Heap) (l1 : Addr) (y : Str) (ty : Tok) : Heap := (zipS4 h l1 y ty).push { cls := .type "zip", data := .fields #[.none, .bool false, .bool false, .ref (zipS2 h l1 y ty).objs.size, .ref (zipS3 h l1 y ty).objs.size] }
set_option maxHeartbeats 4000000 in
theorem meets_zipLS (l1 : Addr) (xs : Array Value) (y : Str) (ty : Tok) (ha : (y.cps.all fun c => decide (c < 128)) = true) :
    Meets (Builtin.«zip.__new__» ⟨[.type "zip", .ref l1, .str y ty], []⟩) (fun _ R s => s.heap.IsList l1 xs ∧
      R (.ok (.ret (.ref (zipS4 s.heap l1 y ty).objs.size))) { s with heap := zipS5 s.heap l1 y ty }) :=
  .of_wp fun prog w A R s h => by
    obtain ⟨hp, g, d, tk, os⟩ := s; obtain ⟨hl1, h⟩ := h
    have hsub := sub_zip
    have hL1 : Heap.IsList (Shared.heap ⟨hp, g, d, tk, os⟩) l1 xs := hl1
    wp_walk using wpAny_pyIter_list hL1, wpAny_pyIter_ascii ha
    exact ⟨_, rfl, h⟩
theorem call_zipLS {l1 : Addr} {xs : Array Value} {y : Str} {ty : Tok} {Q : Value → Shared → Prop} (ha : (y.cps.all fun c => decide (c < 128)) = true) (hl1 : s.heap.IsList l1 xs)
    (h : ∀ h', IsZip h' (s.heap.objs.size + 4) (s.heap.objs.size + 2) (s.heap.objs.size + 3) .none → IsPair h' (s.heap.objs.size + 2) (.ref s.heap.objs.size) (.ref (s.heap.objs.size + 1)) →
      IsPair h' (s.heap.objs.size + 3) .none .none → h'.IsListIter s.heap.objs.size l1 0 → h'.IsStrIter (s.heap.objs.size + 1) "str_ascii_iterator" y ty 0 →
      (∀ c o, s.heap.get? c = some o → h'.get? c = some o) → Q (.ref (s.heap.objs.size + 4)) { s with heap := h' }) :
    wpAny (model prog w) A (call (.type "zip") [.ref l1, .str y ty]) Q E s := by
  refine callType_new F.called_zip (by decide) (F.typeCall_zip_2 _ _) (F.newCall_zip_2 _ _) (fun obj => F.args_object_init_3 obj _ _) F.entry_zip_new
    (meets_zipLS l1 xs y ty ha) ⟨hl1, ?_⟩
  have z1 : (zipH1 s.heap l1).objs.size = s.heap.objs.size + 1 := Heap.size_push ..
  have z2 : (zipS2 s.heap l1 y ty).objs.size = s.heap.objs.size + 2 := by rw [Heap.size_push, z1]
  have z3 : (zipS3 s.heap l1 y ty).objs.size = s.heap.objs.size + 3 := by rw [Heap.size_push, z2]
  have z4 : (zipS4 s.heap l1 y ty).objs.size = s.heap.objs.size + 4 := by rw [Heap.size_push, z3]
  have g5 : (zipS5 s.heap l1 y ty).get? (zipS4 s.heap l1 y ty).objs.size = some _ := Heap.get?_push_size _ rfl
  have g4 : (zipS5 s.heap l1 y ty).get? (zipS3 s.heap l1 y ty).objs.size = some _ := Heap.get?_push_of_some _ (Heap.get?_push_size _ rfl)
  have g3 : (zipS5 s.heap l1 y ty).get? (zipS2 s.heap l1 y ty).objs.size = some _ := Heap.get?_push_of_some _ (Heap.get?_push_of_some _ (Heap.get?_push_size _ rfl))
  have g2 : (zipS5 s.heap l1 y ty).get? (zipH1 s.heap l1).objs.size = some _ := Heap.get?_push_of_some _ (Heap.get?_push_of_some _ (Heap.get?_push_of_some _ (Heap.get?_push_size _ rfl)))
  have g1 : (zipS5 s.heap l1 y ty).get? s.heap.objs.size = some _ := Heap.get?_push_of_some _ (Heap.get?_push_of_some _ (Heap.get?_push_of_some _ (Heap.get?_push_of_some _ (Heap.get?_push_size _ rfl))))
  show _ ∧ _
  rw [z2, z3, z4] at g5
  rw [z1, z2] at g3
  rw [z3] at g4
  rw [z1] at g2
  rw [z4]
  exact ⟨⟨_, g5, rfl⟩, h _ g5 g3 g4 ⟨_, g1, rfl, rfl⟩ ⟨_, g2, rfl, rfl⟩ fun c o x =>
    Heap.get?_push_of_some _ (Heap.get?_push_of_some _ (Heap.get?_push_of_some _ (Heap.get?_push_of_some _ (Heap.get?_push_of_some _ x))))⟩
end
section
variable {G : Gs} {n : Nat} {A : Around} {sc : Scope} {on : List Str} {B : Bse} {cx : Cx} {env : Env} {s : Shared} {N : Lg}
theorem EvI.zipLS {x : Str} {e e' : Expr} {p pos p2 : Pos} {elts : List Expr} {k' : Nat} {ds : List D} {y : Str} (hn : Nm G sc x (.type "zip")) (he : Ev G n sc cx e (.list ds)) (he' : Ev G n sc cx e' (.str y)) (ha : (y.cps.all fun c => decide (c < 128)) = true) (hst : ∀ env, starEach [e, e'] env = (false, eval e env) :: starEach [e'] env := by intro _; rfl) (hst' : ∀ env, starEach [e'] env = (false, eval e' env) :: starEach [] env := by intro _; rfl) :
    EvI G n sc cx (.Call (.Name x p) [e, e'] [] pos) (.Tuple elts k' p2) (zipD ds (signs y)) := by
  refine ⟨fun A env s N rm z Q E q => ?_⟩
  with_reducible refine wpAny_Call_NameR (hn.eval z (PyProof.Rows.callWith_type1 ?_ (hst env) (by rw [hst']; with_unfolding_all rfl)))
  refine (EvL.cons he (EvL.cons he' .nil hst') hst).go A env s N pos rm z _ _ fun vs s1 N1 g1 r1 => ?_
  refine r1.e2 ?_; intro v v' r1 r2; refine r1.eList ?_; intro l1 o1 vs n1 a1 a2 a3 a4; refine r2.eStr ?_; intro ty
  have ok1 := (z.gr g1).toOk
  have hL1 : s1.heap.IsList l1 vs.toArray := ⟨_, ok1.hold _ _ a1, a2, _, a3⟩
  have hl := a4.length
  have lt1 : l1 < s1.heap.objs.size := Heap.lt_size (ok1.hold _ _ a1)
  generalize hm : s1.heap.objs.size = m at lt1
  refine call_zipLS ha hL1 ?_
  rw [hm]
  intro h' hz hTI hTO hi1 hi2 hk
  have g2 : Gr s1 N1 { s1 with heap := h' } N1 := Gr.keeps ok1 hk rfl rfl
  have g3 := g2.freeze (Heap.get?_none_of_le (by rw [hm]; exact Nat.le_add_right _ _)) hTI
  have W := walks_zipLS (prog := G.prog) (w := G.w) (A := A) rm.handled (m + 4) (m + 2) (m + 3) m (m + 1) l1 (zipSp_new lt1) vs.toArray y ty
  refine wpAny_pyIter_zip hz ?_
  refine q (.ref (m + 4)) _ _ _ _ (g1.trans g3) (fun b hb => none_of_keep g1.keep (zip_wr hm b hb).1) (fresh_out ok1.hold hm)
    (Itr.walks W (by simp [zipD, signs, hl]) (allc (fun h => absurd (.head _) h) (allc (fun _ => ⟨_, Lg.add_self ..⟩) (allc (fun h => absurd (.tail _ (.head _)) h) (allc (fun h => absurd (.tail _ (.tail _ (.head _))) h) (allc (fun h => absurd (.tail _ (.tail _ (.tail _ (.head _)))) h) (allc (fun _ => ⟨_, .inl a1⟩) alln)))))) (fun i h st => have ⟨_, _, h3⟩ := st.2.2.1; allc (odd_rec st.1 (by decide)) (allc (odd_pair h3) (allc (odd_listiter st.2.2.2.1) (allc (odd_striter st.2.2.2.2.1) alln)))) fun i vals d hd hp => ?_) ⟨allc (odd_rec hz (by decide)) (allc (odd_pair hTO) (allc (odd_listiter hi1) (allc (odd_striter hi2) alln))), fun h'' hw hn => ?_⟩
  · obtain ⟨v, c, t, hv, hw, rfl⟩ := hp
    simp only [zipD, List.getElem?_map] at hd
    obtain ⟨pr, h1, h2⟩ := Option.map_eq_some_iff.mp hd
    rw [List.getElem?_zip_eq_some] at h1
    obtain ⟨v', hv', r⟩ := a4.get h1.1
    have : v' = v := by rw [List.getElem?_toArray, hv'] at hv; exact Option.some.inj hv
    subst this
    have hc : pr.2 = .str ⟨#[c]⟩ := by
      have h3 := h1.2
      simp only [signs, List.getElem?_map, Array.getElem?_toList, hw, Option.map_some] at h3
      exact (Option.some.inj h3).symm
    exact ⟨[pr.1, pr.2], h2.symm, .cons (r.mono (Lg.add_le _ _ _)) (.one (by rw [hc]; exact .str _ _))⟩
  · exact ⟨(hw _ (.head _)).trans hz, hn _ _ (Lg.add_self ..), ⟨_, _, (hw _ (.tail _ (.head _))).trans hTO⟩, (let ⟨o', e', r'⟩ := hi1; ⟨o', (hw _ (.tail _ (.tail _ (.head _)))).trans e', r'⟩), (let ⟨o', e', r'⟩ := hi2; ⟨o', (hw _ (.tail _ (.tail _ (.tail _ (.head _))))).trans e', r'⟩), ⟨_, hn _ _ (.inl a1), a2, _, a3⟩⟩
end
end Mine
end
section
set_option tactic.hygienic false
open PySem PySem.W PyProof.Rows
namespace Mine
structure EvIX (G : Gs) (n : Nat) (sc : Scope) (cx : Cx) (W : Wd) (e : Expr) (tgt : Expr) (items : List D) : Prop where
  go : ∀ A env s N X, Rm A n → Vw G sc cx env s N → Hx X s N → W.P N X → ∀ (Q : Value → Shared → Prop) (E : Value → Shared → Prop),
    (∀ it wr s' N' St, Gr s N s' N' → (∀ b ∈ wr, s.heap.get? b = none) → (∀ b ∈ wr, ∀ o, ¬ N' b o) → Itr G A it tgt wr N' items St → St 0 s'.heap → Q it s') →
    wpAny G.M A (eval e env) (fun x s1 => wpAny G.M A (pyIter x) Q E s1) E s
noncomputable def Wd.any : Wd := ⟨fun _ _ => True, fun _ _ => trivial⟩
section
variable {G : Gs} {n : Nat} {A : Around} {sc : Scope} {on : List Str} {B : Bse} {cx : Cx} {env : Env} {s : Shared} {N : Lg} {X Y : Xs} {W : Wd} {s₀ : Shared} {N₁ : Lg}
theorem EvIX.pure {e tgt : Expr} {items : List D} (h : EvI G n sc cx e tgt items) : EvIX G n sc cx W e tgt items :=
  ⟨fun A env s N X rm z hx hw Q E k => h.go A env s N rm z Q E k⟩
theorem EvIX.str {e : Expr} {y : Str} {p : Pos} {x : Str} (he : EvR G n sc cx W e (.str x)) (ha : (x.cps.all fun c => decide (c < 128)) = true) : EvIX G n sc cx W e (.Name y p) (signs x) := by
  refine ⟨fun A env s N X rm z hx hw Q E k => ?_⟩
  refine he.go A env s N X rm z hx hw _ _ fun v s1 N1 g1 r1 => ?_
  cases r1 with
  | str _ t =>
    have ok1 := (z.gr g1).toOk
    refine wpAny_pyIter_ascii ha ?_
    have hno : s1.heap.get? s1.heap.objs.size = none := Heap.get?_none_of_le (Nat.le_refl _)
    refine k _ [s1.heap.objs.size] _ N1 _ (g1.trans (Gr.keeps ok1 (fun a o e => Heap.get?_push_of_some _ e) rfl rfl)) (fun b hb => ?_) (fun b hb o e => ?_) (Itr.ascii (t := t) rm.handled (fun _ _ => rfl)) ⟨_, Heap.get?_push_size _ rfl, rfl, rfl⟩
    · rcases List.mem_singleton.mp hb with rfl; exact none_of_keep g1.keep hno
    · rcases List.mem_singleton.mp hb with rfl
      have := ok1.hold _ _ e; rw [hno] at this; cases this
variable {Q : Flow → Shared → Prop} {E : Value → Shared → Prop} {rest : List Stmt} {cx0 : Cx}
inductive StX {σ : Type} (G : Gs) (sc : Scope) (on : List Str) (env : Env) (s₀ : Shared) (X : Xs) (N₁ : Lg) (Y' : Xs) (Wf : σ → Wd) (cxs : σ → Cx) (P : σ → Prop) (s' : Shared) : Prop
  | mk (σ' : σ) (N' N₁' : Lg) (X' : Xs) (hP : P σ') (hw : WX (Wf σ') N₁' X' Y') (ha : AllX X X') (hl : Bse.Le ⟨X ++ Y', s₀, N₁⟩ ⟨X' ++ Y', s₀, N₁'⟩) (hF : Fs G sc on ⟨X' ++ Y', s₀, N₁'⟩ (cxs σ') env s' N') : StX G sc on env s₀ X N₁ Y' Wf cxs P s'
noncomputable abbrev ForXQ {σ : Type} (G : Gs) (sc : Scope) (on : List Str) (env : Env) (s₀ : Shared) (X : Xs) (N₁ : Lg) (Y' : Xs) (Wf : σ → Wd) (cxs : σ → Cx) (P Pb : σ → Prop) (Q : Flow → Shared → Prop) (f : Flow) (s' : Shared) : Prop := match f with
        | .next | .cont => StX G sc on env s₀ X N₁ Y' Wf cxs P s'
        | .brk => StX G sc on env s₀ X N₁ Y' Wf cxs Pb s'
        | .ret v => Q (.ret v) s'
inductive ForXI {σ : Type} (G : Gs) (sc : Scope) (on : List Str) (env : Env) (s₀ : Shared) (items : List D) (P : Nat → σ → Prop) (Wf : σ → Wd) (cxs : σ → Cx) (St : Nat → Heap → Prop) (wr : List Addr) (N1 : Lg) (X₀ : Xs) (N₀ : Lg) (Y : Xs) (c : Nat) (s' : Shared) : Prop
  | mk (i : Nat) (σ' : σ) (N' N₁ : Lg) (X : Xs) (hc : c = items.length + 1 - i) (hi : i ≤ items.length) (hP : P i σ') (hst : St i s'.heap) (hle : ∀ a o, N1 a o → N' a o) (hN : ∀ b ∈ wr, ∀ o, ¬ N' b o) (hX : ∀ p ∈ X ++ Y, p.1 ∉ wr) (hw : WX (Wf σ') N₁ X Y) (ha : AllX X₀ X) (hl : Bse.Le ⟨X₀ ++ Y, s₀, N₀⟩ ⟨X ++ Y, s₀, N₁⟩) (hF : Fs G sc on ⟨X ++ Y, s₀, N₁⟩ (cxs σ') env s' N') : ForXI G sc on env s₀ items P Wf cxs St wr N1 X₀ N₀ Y c s'
theorem forX {σ : Type} {tgt it : Expr} {body : List Stmt} {p : Pos} {items : List D} {X₀ : Xs} {N₀ : Lg} (P : Nat → σ → Prop) (Pb : σ → Prop) (Wf : σ → Wd) (cxs : σ → Cx) (add : D → Cx) (σ₀ : σ)
    (w : WX (Wf σ₀) N₀ X₀ Y) (F : Fs G sc on ⟨X₀ ++ Y, s₀, N₀⟩ cx env s N) (rm : Rm A n) (hsub0 : ∀ q ∈ cx0, q ∈ cx) (hit : EvIX G n sc cx0 (Wf σ₀) it tgt items) (hsub : ∀ q ∈ cxs σ₀, q ∈ cx) (h0 : P 0 σ₀)
    (htgt : ∀ i σ d, P i σ → items[i]? = some d → Tgt G sc on (cxs σ) tgt d (add d))
    (turn : ∀ i σ d s N E' Y' N₁ X, P i σ → items[i]? = some d → WX (Wf σ) N₁ X Y' → AllX X₀ X → Bse.Le ⟨X₀ ++ Y, s₀, N₀⟩ ⟨X ++ Y', s₀, N₁⟩ → Fs G sc on ⟨X ++ Y', s₀, N₁⟩ (add d ++ cxs σ) env s N →
      Wp G A (execs body env) (ForXQ G sc on env s₀ X N₁ Y' Wf cxs (P (i + 1)) Pb Q) E' s)
    (k : ∀ σ s' N' N₁ X, (P items.length σ ∨ Pb σ) → WX (Wf σ) N₁ X Y → AllX X₀ X → Bse.Le ⟨X₀ ++ Y, s₀, N₀⟩ ⟨X ++ Y, s₀, N₁⟩ → Fs G sc on ⟨X ++ Y, s₀, N₁⟩ (cxs σ) env s' N' → Wp G A (execs rest env) Q E s')
    (hs : ∀ env x, foldedSetIterable it env x = Pure.pure x := by intro _ _; rfl) : Wp G A (execs (.For tgt it body [] p :: rest) env) Q E s := by
  refine wseq ⟨?_⟩
  have hx0 := w.hx F
  with_reducible refine wpAny_For (hit.go A env s N X₀ rm (F.sub hsub0).toVw hx0 (w.now F) _ _ fun I wr s1 N1 St g1 hf hN IT hst => ?_) (hs env)
  have hX : ∀ p ∈ X₀ ++ Y, p.1 ∉ wr := fun p hp q => by have := (F.ext p hp).1; rw [hf _ q] at this; cases this
  have h0w : ∀ b ∈ wr, s₀.heap.get? b = none := fun b hb => by
    cases q : s₀.heap.get? b with
    | none => rfl
    | some o => have := F.keep b o (fun p hp e => hX p hp (e ▸ hb)) q; rw [hf b hb] at this; cases this
  let Inv : Nat → Shared → Prop := ForXI G sc on env s₀ items P Wf cxs St wr N1 X₀ N₀ Y
  refine codeAny_for Inv ?_ (items.length + 1) ⟨0, σ₀, N1, N₀, X₀, rfl, Nat.zero_le _, h0, hst, fun _ _ e => e, hN, hX, w, fun q hq => ⟨q, hq, rfl⟩, Bse.Le.refl _, (F.gr g1).sub hsub⟩
  rintro c s' ⟨i, σ, N', N₁, X, rfl, hi, hP, hst', hle, hN', hXw, wX, hall, hB0, F'⟩
  by_cases hlt : i < items.length
  · obtain ⟨d, hd⟩ : ∃ d, items[i]? = some d := ⟨items[i], by simp [hlt]⟩
    refine wpAny_mono (IT.next i s' N' d hd hst' F'.toOk hle hN' (fun v s2 => wpAny G.M A (assign tgt env v) (fun _ s₂ => wpAny G.M A (execs body env) (fun f s₃ => match f with
            | .next | .cont => ∃ m, m < items.length + 1 - i ∧ Inv m s₃
            | .brk => Wp G A (execs rest env) Q E s₃
            | .ret v => Q (.ret v) s₃) (notedBy G.M A env fun e s' => cameBackBy G.M A env E e s') s₂) (notedBy G.M A env fun e s' => cameBackBy G.M A env E e s') s2) (notedBy G.M A env fun e s' => cameBackBy G.M A env E e s') fun v s2 N2 g2 hst2 r2 => ?_) (fun r s3 h3 => ?_) (fun _ _ q => q)
    · have F2 := F'.grw g2 (IT.odd _ _ hst') h0w hXw
      have hN2 : ∀ b ∈ wr, ∀ o, ¬ N2 b o := fun b hb o e => by
        rcases g2.new b o e with e | e
        · exact hN' b hb o e
        · obtain ⟨o', ho', _⟩ := IT.odd _ _ hst' b hb; rw [ho'] at e; cases e
      obtain ⟨F3, hB⟩ := F2.ext_w (IT.odd _ _ hst2) h0w hN2
      have F3' : Fs G sc on ⟨X ++ (XW s2.heap wr ++ Y), s₀, N2⟩ (cxs σ) env s2 N2 := F3.reX fun p => mem_lc
      have wX2 : WX (Wf σ) N2 X (XW s2.heap wr ++ Y) := ⟨(Wf σ).mono F2.le wX.p, wX.nc, fun p hp q hq e => by
        rcases List.mem_append.mp hq with hq | hq
        · exact hXw p (List.mem_append_left _ hp) (e ▸ (XW_mem hq).1)
        · exact wX.ap p hp q hq e⟩
      have hB2 : Bse.Le ⟨X₀ ++ Y, s₀, N₀⟩ ⟨X ++ (XW s2.heap wr ++ Y), s₀, N2⟩ := by
        refine ⟨rfl, fun p hp => ?_, fun a o e => F2.le a o (hB0.le a o e), fun a o e => (F2.new a o e).elim (fun e => hB0.new a o e) .inr⟩
        rcases List.mem_append.mp hp with hp | hp
        · exact hB0.x p (List.mem_append_left _ hp)
        · rcases List.mem_append.mp hp with hp | hp
          · exact .inr (h0w _ (XW_mem hp).1)
          · exact hB0.x p (List.mem_append_right _ hp)
      have back : ∀ σ' s4 N4 N₁' X', WX (Wf σ') N₁' X' (XW s2.heap wr ++ Y) → AllX X X' → Bse.Le ⟨X ++ (XW s2.heap wr ++ Y), s₀, N2⟩ ⟨X' ++ (XW s2.heap wr ++ Y), s₀, N₁'⟩ → Fs G sc on ⟨X' ++ (XW s2.heap wr ++ Y), s₀, N₁'⟩ (cxs σ') env s4 N4 →
          (∀ b ∈ wr, s4.heap.get? b = s2.heap.get? b ∧ ∀ o, ¬ N4 b o) ∧ (∀ p ∈ X' ++ Y, p.1 ∉ wr) ∧ WX (Wf σ') N₁' X' Y ∧ AllX X₀ X' ∧ Bse.Le ⟨X₀ ++ Y, s₀, N₀⟩ ⟨X' ++ Y, s₀, N₁'⟩ ∧ Fs G sc on ⟨X' ++ Y, s₀, N₁'⟩ (cxs σ') env s4 N4 ∧ (∀ a o, N2 a o → N4 a o) := by
        intro σ' s4 N4 N₁' X' w' hall' hL F4
        refine ⟨fun b hb => ?_, fun p hp hw => ?_, ⟨w'.p, w'.nc, fun p hp q hq => w'.ap p hp q (List.mem_append_right _ hq)⟩, fun q hq => ?_, ⟨rfl, fun p hp => ?_, fun a o e => hL.le a o (F2.le a o (hB0.le a o e)), fun a o e => ?_⟩, ?_, fun a o e => F4.le a o (hL.le a o e)⟩
        · obtain ⟨o, ho, _⟩ := IT.odd _ _ hst2 b hb
          have z := F4.ext (b, o) (List.mem_append_right _ (List.mem_append_left _ (mem_XW hb ho)))
          exact ⟨z.1.trans ho.symm, z.2.1⟩
        · rcases List.mem_append.mp hp with hp | hp
          · obtain ⟨o, ho, _⟩ := IT.odd _ _ hst2 p.1 hw
            exact w'.ap p hp (p.1, o) (List.mem_append_left _ (mem_XW hw ho)) rfl
          · exact hX p (List.mem_append_right _ hp) hw
        · obtain ⟨p, hp, e⟩ := hall q hq
          obtain ⟨p', hp', e'⟩ := hall' p hp
          exact ⟨p', hp', e'.trans e⟩
        · have : p ∈ X' ++ (XW s2.heap wr ++ Y) := by
            rcases List.mem_append.mp hp with hp | hp
            · exact List.mem_append_left _ hp
            · exact List.mem_append_right _ (List.mem_append_right _ hp)
          rcases hL.x p this with ⟨q, hq, e⟩ | e
          · rcases hB2.x q hq with ⟨q', hq', e'⟩ | e'
            · exact .inl ⟨q', hq', e'.trans e⟩
            · exact .inr (by rw [← e]; exact e')
          · exact .inr e
        · rcases hL.new a o e with e | e
          · exact hB2.new a o e
          · exact .inr e
        · refine Fs.ret_w (B := ⟨X' ++ Y, s₀, N₁'⟩) (h := s2.heap) (wr := wr) (N2 := N₁') (F4.reX fun p => ?_) ⟨rfl, fun p hp => ?_, fun _ _ e => e, fun _ _ e => .inl e⟩
          · exact mem_lc
          · rcases List.mem_append.mp hp with hp | hp
            · exact .inr (h0w _ (XW_mem hp).1)
            · exact .inl ⟨p, hp, rfl⟩
      refine (htgt i σ d hP hd).go A _ env s2 N2 v rm.handled F3' r2 _ _ fun s3 N3 F4 => ?_
      refine wpAny_mono (turn i σ d s3 N3 _ _ N2 X hP hd wX2 hall hB2 F4).go (fun f s4 h4 => ?_) (fun _ _ q => q)
      have fin : StX G sc on env s₀ X N2 (XW s2.heap wr ++ Y) Wf cxs (P (i + 1)) s4 → ∃ m, m < items.length + 1 - i ∧ Inv m s4 := by
        rintro ⟨σ', N4, N₁', X', hP4, w', hall', hL, F5⟩
        have Z := back σ' s4 N4 N₁' X' w' hall' hL F5
        exact ⟨items.length + 1 - (i + 1), by lia, i + 1, σ', N4, N₁', X', rfl, hlt, hP4, IT.frame _ _ _ hst2 fun b hb => (Z.1 b hb).1, fun a o e => Z.2.2.2.2.2.2 a o (g2.le a o (hle a o e)), fun b hb => (Z.1 b hb).2, Z.2.1, Z.2.2.1, Z.2.2.2.1, Z.2.2.2.2.1, Z.2.2.2.2.2.1⟩
      cases f with
      | next => exact fin h4
      | cont => exact fin h4
      | brk =>
        obtain ⟨σ', N4, N₁', X', hP4, w', hall', hL, F5⟩ := h4
        have Z := back σ' s4 N4 N₁' X' w' hall' hL F5
        exact k σ' s4 N4 N₁' X' (.inr hP4) Z.2.2.1 Z.2.2.2.1 Z.2.2.2.2.1 Z.2.2.2.2.2.1
      | ret v => exact h4
    · cases r with
      | none => exact h3.elim
      | some v =>
        refine wpAny_mono h3 (fun _ s4 h4 => wpAny_mono h4 (fun _ s5 h5 => wpAny_mono h5 (fun f s6 h6 => ?_) (fun _ _ q => q)) (fun _ _ q => q)) (fun _ _ q => q)
        cases f <;> exact h6
  · have : i = items.length := by lia
    subst this
    refine IT.stop s' N' hst' F'.toOk hle hN' _ _ fun s2 g2 => ?_
    exact k σ s2 N' N₁ X (.inl hP) wX hall hB0 (F'.grw g2 (IT.odd _ _ hst') h0w hXw)
noncomputable abbrev ForQ {σ : Type} (G : Gs) (sc : Scope) (on : List Str) (A : Around) (B B' : Bse) (env : Env) (cxs : σ → Cx) (P : σ → Prop) (rest : List Stmt) (Q : Flow → Shared → Prop) (E : Value → Shared → Prop) (f : Flow) (s' : Shared) : Prop := match f with | .next | .cont => ∃ σ' N', P σ' ∧ Fs G sc on B' (cxs σ') env s' N' | .brk => ∃ σ' N', Fs G sc on B' (cxs σ') env s' N' ∧ (∀ s' N', Fs G sc on B (cxs σ') env s' N' → Wp G A (execs rest env) Q E s') | .ret v => Q (.ret v) s'
theorem for_ {σ : Type} {tgt it : Expr} {body : List Stmt} {p : Pos} {items : List D} (P : Nat → σ → Prop) (cxs : σ → Cx) (add : D → Cx) (σ₀ : σ)
    (F : Fs G sc on B cx env s N) (rm : Rm A n) (hit : EvI G n sc cx it tgt items) (hsub : ∀ q ∈ cxs σ₀, q ∈ cx) (h0 : P 0 σ₀)
    (htgt : ∀ i σ d, P i σ → items[i]? = some d → Tgt G sc on (cxs σ) tgt d (add d))
    (turn : ∀ B' i σ d s N E', B.Le B' → P i σ → items[i]? = some d → Fs G sc on B' (add d ++ cxs σ) env s N →
      Wp G A (execs body env) (ForQ G sc on A B B' env cxs (P (i + 1)) rest Q E) E' s)
    (k : ∀ σ s' N', P items.length σ → Fs G sc on B (cxs σ) env s' N' → Wp G A (execs rest env) Q E s')
    (hs : ∀ env x, foldedSetIterable it env x = Pure.pure x := by intro _ _; rfl) : Wp G A (execs (.For tgt it body [] p :: rest) env) Q E s := by
  have F0 : Fs G sc on ⟨[] ++ B.X, B.s₀, B.N₀⟩ cx env s N := F
  refine forX (X₀ := []) (Y := B.X) (N₀ := B.N₀) (s₀ := B.s₀) (cx0 := cx) P (fun σ => ∀ s' N', Fs G sc on B (cxs σ) env s' N' → Wp G A (execs rest env) Q E s') (fun _ => Wd.any) cxs add σ₀ ⟨trivial, fun _ h => (nomatch h), fun _ h => (nomatch h)⟩ F0 rm (fun _ h => h) (EvIX.pure hit) hsub h0 htgt (fun i σ d s N E' Y' N₁ X hP hd w a l F => ?_) (fun σ s' N' N₁ X hP w a l F => ?_) hs
  · refine ⟨wpAny_mono (turn _ i σ d s N E' l hP hd F).go (fun f s' h => ?_) fun _ _ e => e⟩
    cases f with
    | next => exact let ⟨σ', N', p, F'⟩ := h; ⟨σ', N', N₁, X, p, w, fun q hq => ⟨q, hq, rfl⟩, .refl _, F'⟩
    | cont => exact let ⟨σ', N', p, F'⟩ := h; ⟨σ', N', N₁, X, p, w, fun q hq => ⟨q, hq, rfl⟩, .refl _, F'⟩
    | brk => exact let ⟨σ', N', F', p⟩ := h; ⟨σ', N', N₁, X, p, w, fun q hq => ⟨q, hq, rfl⟩, .refl _, F'⟩
    | ret v => exact h
  · have F' : Fs G sc on B (cxs σ) env s' N' := F.weak l fun p hp => List.mem_append_right _ hp
    exact hP.elim (fun h => k σ s' N' h F') fun h => h s' N' F'
end
end Mine
end
section
set_option tactic.hygienic false
open PySem PySem.W PyProof.Rows
namespace Mine
theorem all_trans {X X' X'' : Xs} (h : AllX X X') (k : AllX X' X'') : AllX X X'' := fun q hq => by obtain ⟨p, hp, e⟩ := h q hq; obtain ⟨p', hp', e'⟩ := k p hp; exact ⟨p', hp', e'.trans e⟩
section
variable {G : Gs} {n : Nat} {A : Around} {sc : Scope} {on : List Str} {B : Bse} {cx : Cx} {env : Env} {s : Shared} {N : Lg}
variable {Q : Flow → Shared → Prop} {E : Value → Shared → Prop} {rest : List Stmt}
theorem asgMR {x : Str} {p p' : Pos} {e : Expr} {ds : List D} {cx' : Cx} (F : Fs G sc on B cx env s N) (rm : Rm A n) (he : EvM G n sc cx e ds) (hsub : ∀ q ∈ cx', q ∈ cx) (hx : canSt sc on cx' x = true)
    (k : ∀ s' N', Fs G sc on B ((x, .lst ds) :: cx') env s' N' → Wp G A (execs rest env) Q E s')
    (hw : ∀ line env, EnvOk sc env → swapsWith e (some (Expr.Name x p)) line env = pure false := by intro _ _ _; rfl) : Wp G A (execs (.Assign [.Name x p] e p' :: rest) env) Q E s := by
  obtain ⟨h1, h2, h3⟩ := canSt.all hx
  refine wseq ⟨?_⟩
  with_reducible refine wpAny_Assign_Name ((he.go A env s N rm F.toVw).go _ _ fun a vs s1 N1 g1 h0 hN hl r1 => ?_) (hw _ _ F.envOk)
  obtain ⟨i1, i2, i3⟩ := fresh_list F g1 h0
  exact ((F.gr g1).sub hsub).storeM h2 h1 h3 hl r1 i2 hN i1 (fun y es hy => i3 y es (hsub _ hy)) fun s' F' => k s' N1 F'
theorem ifJ {t : Expr} {b1 b2 : List Stmt} {p : Pos} {b : Bool} {cxJ : Cx} (F : Fs G sc on B cx env s N) (rm : Rm A n) (ht : EvT G n sc cx t b)
    (k1 : b = true → ∀ s' N', Fs G sc on B cx env s' N' → Wp G A (execs b1 env) (fun f s' => f = .next ∧ ∃ N', Fs G sc on B cxJ env s' N') E s')
    (k2 : b = false → ∀ s' N', Fs G sc on B cx env s' N' → Wp G A (execs b2 env) (fun f s' => f = .next ∧ ∃ N', Fs G sc on B cxJ env s' N') E s')
    (k : ∀ s' N', Fs G sc on B cxJ env s' N' → Wp G A (execs rest env) Q E s') : Wp G A (execs (.If t b1 b2 p :: rest) env) Q E s := by
  refine if_ F rm ht (fun hb s N F => ⟨wpAny_mono (k1 hb s N F).go (fun f s' h => ?_) fun _ _ e => e⟩) (fun hb s N F => ⟨wpAny_mono (k2 hb s N F).go (fun f s' h => ?_) fun _ _ e => e⟩)
  all_goals
    obtain ⟨rfl, N', F'⟩ := h
    exact k s' N' F'
theorem brk_ {p : Pos} (h : Q .brk s) : Wp G A (execs (.Break p :: rest) env) Q E s := by
  refine wseq ⟨?_⟩
  exact wpAny_Break h
theorem cont_ {p : Pos} (h : Q .cont s) : Wp G A (execs (.Continue p :: rest) env) Q E s := by
  refine wseq ⟨?_⟩
  exact wpAny_Continue h
noncomputable def clsOk (K : Frag) (C : Addr) (name : Str) (x : Str) : Bool := readsIn K C (.type "type") && match findCls K (.ref C) (.type "type") name with | some (.val (.str y _)) => y == x | _ => false
set_option tactic.hygienic true in
theorem Ev.clsA {f name : Str} {p p' : Pos} {C : Addr} {x : Str} (hn : Nm G sc f (.ref C)) (ok : clsOk G.K C name x = true) : Ev G n sc cx (.Attribute (.Name f p) name p') (.str x) := by
  refine ⟨fun A env s N rm z => ⟨fun Q E k => ?_⟩⟩
  simp only [clsOk, Bool.and_eq_true] at ok
  obtain ⟨h1, h2⟩ := ok
  split at h2
  · rename_i y t he
    have e := beq_iff_eq.mp h2
    subst e
    with_reducible refine Attribute_Name_ (hn.eval z ?_) (by with_unfolding_all rfl)
    exact cls_value z.toOk.frag h1 he rfl (k _ _ _ (Gr.toks z.toOk _) (.str _ _))
  · cases h2
end
end Mine
end
section
set_option tactic.hygienic false
open PySem PySem.W PyProof.Rows
namespace Mine
structure FrC (A : Around) (base : Heap) (l : List Env) (h : Heap) : Prop where
  fr : A.frames = some l
  ff : h.FunFrames base l
  st : base.StaysIn h
structure Fly (base : Heap) (l : List Env) (X : String) (s : Shared) (e : Addr) (s' : Shared) : Prop where
  fl : ∃ a0, Heap.FlyingW base l e (.type X) a0 s'.heap
  up : s.heap.UpToSlots s'.heap
  gens : s'.gens = s.gens
  os : s'.os = s.os
section
variable {M : Model} {A : Around} {E : Value → Shared → Prop} {s : Shared}
theorem StaysIn.miss {base h : Heap} (k : base.StaysIn h) {a : Addr} (e : h.get? a = none) : base.get? a = none := by
  cases q : base.get? a with
  | none => rfl
  | some o => have := k a o q; rw [e] at this; cases this
theorem note_new {base : Heap} {env : Env} {outer : List Env} {L e : Addr} {X : String} {h : Heap} {Q : Unit → Shared → Prop} (hfr : A.frames = some (env :: outer)) (hl : h.FunFrames base (env :: outer)) (hst : base.StaysIn h) (hf : env.frame = some L) (hx : Heap.NewExc h s.heap e X)
    (k : ∀ h' a0, Heap.HeldW base (env :: outer) e (.type X) a0 L h' → s.heap.UpToSlots h' → Q () { s with heap := h' }) : wpAny M A (noteFrame (.ref e) env) Q E s := by
  obtain ⟨ob, t, he, hc, hd⟩ := hx.there
  unfold noteFrame
  simp only [hf]
  refine wpAny_bind (wpAny_field he hd (x := .none) rfl ?_)
  rw [if_neg (by decide)]
  have hne := Mine.StaysIn.miss hst hx.new
  refine wpAny_entryW (a0 := t) hfr (hl.of_keeps fun b o hb _ => ⟨o, hx.keeps b o hb, rfl⟩) hf he (fun b o e => hx.keeps b o (hst b o e)) hne hd (by simp) rfl fun h' hN => ?_
  obtain ⟨k1, k2, k3, k4⟩ := hN
  rw [hc] at k3
  exact k h' t ⟨k1, hne, k2, k3⟩ k4
theorem flight_again {base : Heap} {l : List Env} {e L : Addr} {cls a0 : Value} {Q : Unit → Shared → Prop} (R : Heap.HeldW base l e cls a0 L s.heap)
    (k : ∀ h', Heap.HeldW base l e cls a0 L h' → s.heap.UpToSlots h' → Q () { s with heap := h' }) : wpAny M A (setFlight (.ref e) (some L)) Q E s := by
  obtain ⟨hkb, hne, hl, oe, vs, T, oT, ts, he, hcls, hd, h1, hnT, hTe, hT, hdT, h3⟩ := R
  have hsz3 : 3 < ts.size := (Array.getElem?_eq_some_iff.mp h3).1
  have other : ∀ b, b ≠ T → (s.heap.update T (Obj.mapFields (·.setIfInBounds 3 ((some L : Option Addr).elim Value.none fun f => rawInt f)))).get? b = s.heap.get? b :=
    fun b hb => Heap.get?_update_other _ _ (Ne.symm hb)
  have noRecord : ∀ b o, s.heap.get? b = some o → (∀ vs, o.data ≠ .fields vs) → b ≠ T := fun b o hb hnf q => by
    rw [q, hT] at hb; injection hb with hb; subst hb; exact hnf ts hdT
  unfold setFlight
  refine wpAny_bind (wpAny_field he hd h1 ?_)
  rw [if_pos (show (Value.ref T != Value.none) = true from by simp)]
  refine wpAny_setField hT hdT hsz3 (k _ ⟨fun b o hbo => (other b fun q => by rw [q, hnT] at hbo; cases hbo).trans (hkb b o hbo), hne,
    hl.of_keeps fun b o hb hnf => ⟨o, (other b (noRecord b o hb hnf)).trans hb, rfl⟩, ?_⟩ fun b o hb hnf => ⟨o.slots, (other b (noRecord b o hb hnf)).trans hb⟩)
  exact ⟨oe, vs, T, _, _, (other e (Ne.symm hTe)).trans he, hcls, hd, h1, hnT, hTe, Heap.get?_update_self _ hT (Obj.isFreed_of_fields (Obj.data_mapFields hdT _)), Obj.data_mapFields hdT _, by simp [hsz3]⟩
theorem came_back {base : Heap} {env : Env} {l : List Env} {e L : Addr} {cls a0 : Value} (hf : env.frame = some L) (R : Heap.HeldW base l e cls a0 L s.heap)
    (k : ∀ h', Heap.HeldW base l e cls a0 L h' → s.heap.UpToSlots h' → E (.ref e) { s with heap := h' }) : cameBackBy M A env E (.ref e) s := by
  unfold cameBackBy
  have R' := R
  obtain ⟨hkb, hne, hl, oe, vs, T, oT, ts, he, hcls, hd, h1, r⟩ := R'
  refine wpAny_bind (wpAny_field he hd h1 ?_)
  rw [if_neg (by simp)]
  rw [hf]
  exact flight_again R k
end
section
variable {G : Gs} {n : Nat} {A : Around} {sc : Scope} {on : List Str} {B : Bse} {cx : Cx} {env : Env} {s : Shared} {N : Lg}
structure FnR (G : Gs) (n : Nat) (f : Value) (args : List D) (X : String) : Prop where
  go : ∀ A s N vs base l, Rm A n → Ok G s N → Rps N vs args → FrC A base l s.heap → ∀ (Q : Value → Shared → Prop) (E : Value → Shared → Prop), (∀ e s', Fly base l X s e s' → E (.ref e) s') → wpAny G.M A (call f vs) Q E s
structure EvR' (G : Gs) (n : Nat) (sc : Scope) (cx : Cx) (e : Expr) (X : String) : Prop where
  go : ∀ A env s N base l, Rm A n → Vw G sc cx env s N → FrC A base l s.heap → ∀ (Q : Value → Shared → Prop) (E : Value → Shared → Prop), (∀ e s', Fly base l X s e s' → E (.ref e) s') → wpAny G.M A (eval e env) Q E s
theorem FrC.gr {base : Heap} {l : List Env} {s' : Shared} {N' : Lg} (h : FrC A base l s.heap) (g : Gr s N s' N') : FrC A base l s'.heap :=
  ⟨h.fr, h.ff.of_keeps fun b o e _ => ⟨o, g.keep b o e, rfl⟩, fun b o e => g.keep b o (h.st b o e)⟩
theorem Fly.back {base : Heap} {l : List Env} {X : String} {s1 s2 : Shared} {N1 : Lg} {e : Addr} (g : Gr s N s1 N1) (h : Fly base l X s1 e s2) : Fly base l X s e s2 :=
  ⟨h.fl, (Heap.UpToSlots.of_keeps g.keep).trans h.up, h.gens.trans g.gens, h.os.trans g.os⟩
theorem EvR'.call {f : Str} {p pos : Pos} {e : Expr} {es : List Expr} {ds : List D} {X : String} {a : Addr} {fd : FuncData} (hn : Nm G sc f (.ref a)) (hf : FnAt G.base a fd) (ha : EvL G n sc cx (e :: es) ds) (hc : FnR G n (.ref a) ds X)
    (he : ∀ env, starEach (e :: es) env = (false, eval e env) :: starEach es env := by intro _; rfl) : EvR' G n sc cx (.Call (.Name f p) (e :: es) [] pos) X := by
  refine ⟨fun A env s N base l rm z fc Q E k => ?_⟩
  obtain ⟨⟨o, ho, hd⟩, _⟩ := hf
  with_reducible refine wpAny_Call_NameR (hn.eval z (callWith_def (o := o) hd (ha.go A env s N pos rm z _ _ fun vs s1 N1 g1 r1 => ⟨(z.gr g1).toOk.at ho, ?_⟩) (he env)))
  exact hc.go A s1 N1 vs base l rm (z.gr g1).toOk r1 (fc.gr g1) Q E fun e s2 h => k e s2 (h.back g1)
theorem NewExc.back {h h1 h2 : Heap} {e : Addr} {X : String} (k : ∀ b o, h.get? b = some o → h1.get? b = some o) (x : Heap.NewExc h1 h2 e X) : Heap.NewExc h h2 e X := ⟨fun b o q => x.keeps b o (k b o q), none_of_keep k x.new, x.there⟩
structure EvTR (G : Gs) (n : Nat) (sc : Scope) (cx : Cx) (e : Expr) (X : String) : Prop where
  go : ∀ A env s N, Rm A n → Vw G sc cx env s N → ∀ (Q : Bool → Shared → Prop) (E : Value → Shared → Prop), (∀ e s', Heap.NewExc s.heap s'.heap e X → s'.gens = s.gens → s'.os = s.os → E (.ref e) s') → wpAny G.M A (isTrue e env (eval e env)) Q E s
theorem EvTR.and2 {l r : Expr} {p : Pos} {X : String} (hl : EvT G n sc cx l true) (hr : EvTR G n sc cx r X) : EvTR G n sc cx (.BoolOp .And [l, r] p) X := by
  refine ⟨fun A env s N rm z Q E k => ?_⟩
  with_reducible refine wpAny_isTrue_BoolOp (wpAny_allTrue_And_cons ((hl.go A env s N rm z).go _ _ fun s1 N1 g1 => ?_))
  show wpAny _ _ _ _ _ _
  with_reducible refine wpAny_allTrue_And_cons (hr.go A env s1 N1 rm (z.gr g1) _ _ fun e s2 hx hg ho => k e s2 (NewExc.back g1.keep hx) (hg.trans g1.gens) (ho.trans g1.os))
theorem EvTR.item {v i r : Expr} {op : CmpOp} {p pos : Pos} {x : Str} {j : Nat} (hv : Ev G n sc cx v (.str x)) (hi : Ev G n sc cx i (.int j)) (hj : x.length ≤ j) (hf : fitsSsize (j : Int) = true) (hm : behindInMarks op r = false := by rfl)
    (hs : ∀ o u, subscripted i false o u = operate [o, u] (getItem o u) := by intro _ _; rfl) (hg : ∀ o r, letTemporaryGo v o r = pure () := by intro _ _; rfl) : EvTR G n sc cx (.Compare (.Subscript v i pos) [op] [r] p) "IndexError" := by
  refine ⟨fun A env s N rm z Q E k => ?_⟩
  with_reducible refine wpAny_isTrue_Compare1 ?_ hm
  with_reducible refine Subscript_ ((hv.go A env s N rm z).go _ _ fun v1 s1 N1 g1 r1 => (hi.go A env s1 N1 rm (z.gr g1)).go _ _ fun v2 s2 N2 g2 r2 => ?_)
  refine r1.eStr ?_; intro t; refine r2.eInt ?_; intro u
  refine item_str_or rm.handled hf (fun _ h' tk e hx => k e _ (NewExc.back (g1.trans g2).keep hx) (g1.trans g2).gens (g1.trans g2).os) (fun _ h => ?_) (hs _ _) (hg _)
  lia
variable {Q : Flow → Shared → Prop} {E : Value → Shared → Prop} {rest : List Stmt}
theorem whileR {t : Expr} {body : List Stmt} {p : Pos} {base : Heap} {l : List Env} {X : String} {L : Addr} (cxs : Nat → Cx) (m : Nat) (F : Fs G sc on B (cxs 0) env s N) (rm : Rm A n) (hf : env.frame = some L) (fc : ∀ s N, Fs G sc on B (cxs m) env s N → FrC A base (env :: l) s.heap)
    (ht : ∀ i, i < m → EvT G n sc (cxs i) t true)
    (turn : ∀ i s N (Q' : Flow → Shared → Prop) (E' : Value → Shared → Prop), i < m → Fs G sc on B (cxs i) env s N → (∀ s' N', Fs G sc on B (cxs (i + 1)) env s' N' → Q' .next s') → Wp G A (execs body env) Q' E' s)
    (hr : EvTR G n sc (cxs m) t X)
    (k : ∀ s N e s', Fs G sc on B (cxs m) env s N → (∃ a0, Heap.HeldW base (env :: l) e (.type X) a0 L s'.heap) → s.heap.UpToSlots s'.heap → s'.gens = s.gens → s'.os = s.os → E (.ref e) s') : Wp G A (execs (.While t body [] p :: rest) env) Q E s := by
  refine wseq ⟨?_⟩
  with_reducible refine wpAny_While (codeAny_whileLoop (fun c s' => ∃ i N', c = m - i ∧ i ≤ m ∧ Fs G sc on B (cxs i) env s' N') ?_ m ⟨0, N, rfl, Nat.zero_le _, F⟩)
  rintro c s' ⟨i, N', rfl, hi, F'⟩
  by_cases hlt : i < m
  · refine (ht i hlt).go A env s' N' rm F'.toVw |>.go _ _ fun s1 N1 g1 => ?_
    simp only [if_true]
    exact (turn i s1 N1 _ _ hlt (F'.gr g1) fun s2 N2 F2 => ⟨m - (i + 1), by lia, i + 1, N2, rfl, hlt, F2⟩).go
  · have : i = m := by lia
    subst this
    refine hr.go A env s' N' rm F'.toVw _ _ fun e s1 hx hg ho => ?_
    have fc' := fc s' N' F'
    have hu : s'.heap.UpToSlots s1.heap := Heap.UpToSlots.of_keeps hx.keeps
    show wpAny _ _ (noteFrame (.ref e) env) _ _ _
    refine note_new (h := s'.heap) fc'.fr fc'.ff fc'.st hf hx fun h2 a0 hh hu2 => ?_
    refine came_back hf hh fun h3 hh3 hu3 => ?_
    exact k s' N' e _ F' ⟨a0, hh3⟩ ((hu.trans hu2).trans hu3) hg ho
end
end Mine
end
section
set_option tactic.hygienic false
open PySem PySem.W PyProof.Rows
namespace Mine
section
variable {G : Gs} {n : Nat} {A : Around} {sc : Scope} {on : List Str} {B : Bse} {cx : Cx} {env : Env} {s : Shared} {N : Lg}
variable {Q : Flow → Shared → Prop} {E : Value → Shared → Prop} {rest : List Stmt}
theorem try_ {body : List Stmt} {h : ExceptHandler} {hs : List ExceptHandler} {p : Pos} (k : ∀ E', Wp G A (execs body env) (SeqQ G A env rest Q E) E' s) : Wp G A (execs (.Try body (h :: hs) [] [] p :: rest) env) Q E s := by
  refine wseq ⟨?_⟩
  refine wpAny_Try_except ?_
  refine wpAny_mono (k _).go (fun f s' q => ?_) (fun _ _ q => q)
  cases f with
  | next => exact wpAny_execs_nil q
  | brk => exact q
  | cont => exact q
  | ret v => exact q
theorem none_not_tuple : isSubtype (.type ((Manifest.find? "IndexError").elim "type" fun x => x.metatype)) (.type "tuple") = pure false := by rw [isSubtype_type]; kernel_rfl
theorem tryNone {body : List Stmt} {np rp cp hp p : Pos} {kk : Nat} {base : Heap} {l : List Env} (hN : Nm G sc "IndexError" (.type "IndexError")) (ek : EnvOk sc env) (hfr : A.frames = some (env :: l)) (hf : env.frame = some env.locals) (hh : A.handled = none) (hb : ∀ a o, G.base a o → base.get? a = some o)
    (h : ∀ (Q' : Flow → Shared → Prop) (E' : Value → Shared → Prop), (∀ e s', Fly base (env :: l) "IndexError" s e s' → E' (.ref e) s') → Wp G A (execs body env) Q' E' s)
    (k : ∀ s', base.StaysIn s'.heap → s.heap.UpToSlots s'.heap → s'.gens = s.gens → s'.os = s.os → Q (.ret .none) s') :
    Wp G A (execs (.Try body [.ExceptHandler (some (.Name "IndexError" np)) none [.Return (some (.Constant .none kk cp)) rp] hp] [] [] p :: rest) env) Q E s := by
  refine wseq ⟨?_⟩
  refine wpAny_Try_except ?_
  refine (h _ _ fun e s1 fl => ?_).go
  obtain ⟨⟨a0, f1⟩, hu, hg, ho⟩ := fl
  refine wpAny_looks_onW hfr hf f1 fun h2 f2 hu2 => ?_
  refine wpAny_landsW f2 fun h3 f3 hu3 => ?_
  refine wpAny_handleBy_builtin (X := "IndexError") (T := "IndexError") (b := true) (by rw [isSubtype_type]; kernel_rfl) none_not_tuple (by rw [isSubtype_type]; kernel_rfl) ?_
  have z : Vw G sc [] env { s1 with heap := h3 } G.base := { tp := fun a o e => e, hold := fun a o e => f3.1 a o (hb a o e), envOk := ek, vars := fun _ _ h => (nomatch h) }
  refine hN.eval z ⟨rfl, ?_, ?_⟩
  · obtain ⟨ob, h4, h5⟩ := f3.there
    exact ⟨ob, h4, h5⟩
  · simp only [if_true]
    refine lands_againW f3 fun h4 f4 hu4 => ?_
    refine wpAny_execs_cons ?_
    refine wpAny_Return_some (wpAny_Constant_none ?_)
    exact k _ f4.1 (((hu.trans hu2).trans hu3).trans hu4) hg ho
structure FnN (G : Gs) (n : Nat) (f : Value) (args : List D) : Prop where
  go : ∀ A s N vs base l, Rm A n → Ok G s N → Rps N vs args → FrC A base l s.heap → (∀ a o, G.base a o → base.get? a = some o) → ∀ (Q : Value → Shared → Prop) (E : Value → Shared → Prop), (∀ s', base.StaysIn s'.heap → s.heap.UpToSlots s'.heap → s'.gens = s.gens → s'.os = s.os → Q .none s') → wpAny G.M A (call f vs) Q E s
theorem Fs.slots {s' : Shared} {base : Heap} (F : Fs G sc on B cx env s N) (hbase : ∀ a o, a ≠ env.locals → s.heap.get? a = some o → base.get? a = some o) (hst : base.StaysIn s'.heap) (hu : s.heap.UpToSlots s'.heap) (hg : s'.gens = s.gens) (ho : s'.os = s.os) : Fs G sc on B cx env s' N := by
  have kp : ∀ a o, a ≠ env.locals → s.heap.get? a = some o → s'.heap.get? a = some o := fun a o h e => hst a o (hbase a o h e)
  have hL := F.loc
  obtain ⟨m0, o0, es0, ep0, e0, d0, r0⟩ := hL
  obtain ⟨sl, e0'⟩ := hu _ _ e0 fun vs q => by rw [d0] at q; cases q
  have kns : ∀ {m}, s.heap.Ns env.locals m → s'.heap.Ns env.locals m := fun ⟨o, es, ep, e, d, r⟩ => by
    rw [e0] at e; cases e
    exact ⟨_, es, ep, e0', d, r⟩
  have kc : ∀ {c v}, s.heap.IsCell c v → s'.heap.IsCell c v := fun {c v} ⟨o, e, d⟩ => by
    refine ⟨o, kp c o (fun q => ?_) e, d⟩
    rw [q, e0] at e; cases e; rw [d0] at d; cases d
  have kl : ∀ {a vs}, LstAt s.heap a vs → LstAt s'.heap a vs := fun {a vs} ⟨o, e, c, nn, d⟩ => by
    refine ⟨o, kp a o (fun q => ?_) e, c, nn, d⟩
    rw [q, e0] at e; cases e; rw [d0] at d; cases d
  have hsee : ∀ {x v}, Sees s.heap env x v → Sees s'.heap env x v := fun {x v} ⟨n, z⟩ => by
    rcases z with ⟨a, m, b, c⟩ | ⟨a, c, b, d⟩
    · exact ⟨n, .inl ⟨a, m, kns b, c⟩⟩
    · exact ⟨n, .inr ⟨a, c, b, kc d⟩⟩
  have hNl : ∀ a o, N a o → a ≠ env.locals := fun a o e q => F.LN o (q ▸ e)
  refine { tp := F.tp, hold := fun a o e => kp a o (hNl a o e) (F.hold a o e), envOk := F.envOk, vars := fun x t hx => ?_, keep := fun a o h e => kp a o (fun q => ?_) (F.keep a o h e), le := F.le, new := F.new, gens := hg.trans F.gens, os := ho.trans F.os, loc := ?_, L0 := F.L0, LN := F.LN, cells := fun x hx => ?_, apart := F.apart, ext := fun p hp => ?_, lists := ?_ }
  · have z := F.vars x t hx
    cases t with
    | imm d => obtain ⟨v, p, q⟩ := z; exact ⟨v, hsee p, q⟩
    | lst ds => obtain ⟨a, vs, p, q, r⟩ := z; exact ⟨a, vs, hsee p, kl q, r⟩
  · rw [q, F.L0] at e; cases e
  · obtain ⟨m, h⟩ := F.loc; exact ⟨m, kns h⟩
  · obtain ⟨c, v, a, b, d, e⟩ := F.cells x hx
    exact ⟨c, v, a, kc b, d, e⟩
  · obtain ⟨h1, h2, h3, h4⟩ := F.ext p hp
    exact ⟨kp _ _ h3 h1, h2, h3, h4⟩
  · obtain ⟨al, h1, h2⟩ := F.lists
    exact ⟨al, fun x ds hx => let ⟨vs, a, b, c, d, e, f⟩ := h1 x ds hx; ⟨vs, hsee a, kl b, c, d, e, f⟩, h2⟩
theorem asgN {x f : Str} {p p' fp cp : Pos} {e : Expr} {es : List Expr} {ds : List D} {a : Addr} {fd : FuncData} (F : Fs G sc on B cx env s N) (rm : Rm A n) (hfr : A.frames = some [env]) (hf : env.frame = some env.locals)
    (hn : Nm G sc f (.ref a)) (hfa : FnAt G.base a fd) (ha : EvL G n sc cx (e :: es) ds) (hc : FnN G n (.ref a) ds) (hx : canSt sc on cx x = true)
    (kk : ∀ s' N', Fs G sc on B ((x, .imm .none) :: cx) env s' N' → Wp G A (execs rest env) Q E s')
    (he : ∀ env, starEach (e :: es) env = (false, eval e env) :: starEach es env := by intro _; rfl)
    (hw : ∀ line env, EnvOk sc env → swapsWith (.Call (.Name f fp) (e :: es) [] cp) (some (Expr.Name x p)) line env = pure false := by intro _ _ _; rfl) : Wp G A (execs (.Assign [.Name x p] (.Call (.Name f fp) (e :: es) [] cp) p' :: rest) env) Q E s := by
  obtain ⟨h1, h2, h3⟩ := canSt.all hx
  obtain ⟨⟨o, ho, hd⟩, _⟩ := hfa
  refine wseq ⟨?_⟩
  have z := F.toVw
  with_reducible refine wpAny_Assign_Name ?_ (hw _ _ F.envOk)
  with_reducible refine wpAny_Call_NameR (hn.eval z (callWith_def (o := o) hd (ha.go A env s N cp rm z _ _ fun vs s1 N1 g1 r1 => ⟨(z.gr g1).toOk.at ho, ?_⟩) (he env)))
  have F1 := F.gr g1
  have hbase : ∀ a o, a ≠ env.locals → s1.heap.get? a = some o → (eraseH s1.heap [env.locals]).get? a = some o := fun a o h e => by
    rw [eraseH_get, if_neg (by simpa using h)]; exact e
  refine hc.go A s1 N1 vs (eraseH s1.heap [env.locals]) [env] rm F1.toOk r1 ⟨hfr, ⟨by rw [F.fk]; decide, ?_, trivial⟩, fun b o e => ?_⟩ (fun a o e => ?_) _ _ fun s2 i1 i2 i3 i4 => ?_
  · obtain ⟨m, o', es', ep', e1, e2, _⟩ := F1.loc
    exact ⟨env.locals, o', hf, by rw [eraseH_get, if_pos (by simp)], e1, fun vs q => by rw [e2] at q; cases q⟩
  · rw [eraseH_get] at e
    split at e
    · cases e
    · exact e
  · exact hbase a o (fun q => F1.LN o (q ▸ F1.tp a o e)) (F1.toOk.at e)
  · exact (F1.slots hbase i1 i2 i3 i4).store h2 h1 h3 .none fun s' F' => kk s' N1 F'
theorem appendR {x : Str} {e : Expr} {p p1 p2 p3 : Pos} {ds : List D} {X : String} {base : Heap} {l : List Env} (F : Fs G sc on B cx env s N) (rm : Rm A n) (fc : FrC A base l s.heap) (he : EvR' G n sc cx e X) (hin : (x, Ent.lst ds) ∈ cx)
    (k : ∀ e s', Fly base l X s e s' → E (.ref e) s')
    (hst : ∀ env, starEach [e] env = (false, eval e env) :: starEach [] env := by intro _; rfl)
    (ht : ∀ env, ((((backTo p2 (starEach [e] env)).all fun x => !x.fst) && (backToKw p2 (keywordEach [] env)).all fun x => x.fst.isSome) && decide (([e].length + ([] : List Keyword).length + if ([] : List Keyword).isEmpty = true then 0 else 1) < 30)) = true := by intro _; rfl)
    (hl : (p1.endLine == p2.line) = true := by rfl)
    (hw : ∀ env, EnvOk sc env → swapsWith (.Call (.Attribute (.Name x p) "append" p1) [e] [] p2) none p3.line env = pure false := by intro _ _; rfl) :
    Wp G A (execs (.Expr (.Call (.Attribute (.Name x p) "append" p1) [e] [] p2) p3 :: rest) env) Q E s := by
  refine wseq ⟨?_⟩
  have hi : interactive env = false := by unfold interactive; rw [F.fk]; rfl
  with_reducible refine wpAny_Expr_any ?_ hi (hw env F.envOk)
  obtain ⟨al, g1, g2⟩ := F.lists
  obtain ⟨ws, i1, i2, i3, i4⟩ := g1 x ds hin
  have hb : attributeBase (.Name x p) "append" env (eval (.Name x p) env) = eval (.Name x p) env := rfl
  with_reducible refine wpAny_Call_method_lateS hb (ht env) hl (i1.name F.fk ?_)
  obtain ⟨o, i2a, i2b, nn, i2c⟩ := i2
  refine ⟨"list", "list.append", PySem.F.plainAttrs_list, slot_list_append, type_list_append, ⟨o, i2a, i2b.1⟩, fun a ea => by cases ea; exact ⟨o, i2a, i2b.2⟩, ?_⟩
  with_reducible refine PyProof.Rows.callWith_method1 ?_ (hst env) (by with_unfolding_all rfl)
  with_reducible refine args_cons ?_ (hst env)
  exact he.go A env s N base l rm F.toVw fc _ _ k
end
end Mine
end
section
set_option tactic.hygienic false
open PySem PySem.W PyProof.Rows
namespace Mine
section
variable {G : Gs} {n : Nat} {A : Around} {sc : Scope} {on : List Str} {B : Bse} {cx : Cx} {env : Env} {s : Shared} {N : Lg}
theorem VarOk.sees {h : Heap} {x : Str} {t : Ent} (z : VarOk env h N x t) : ∃ v, Sees h env x v := by
  cases t with
  | imm d => exact let ⟨v, a, _⟩ := z; ⟨v, a⟩
  | lst ds => exact let ⟨a, vs, b, _⟩ := z; ⟨_, b⟩
theorem Sees.incell {h : Heap} {x : Str} {v : Value} {k : Option NameKind} (z : Sees h env x v) (hk : env.kindOf x = k) (h1 : k = some .cell ∨ k = some .free) : ∃ c, env.cells.lookup x = some c ∧ h.IsCell c (some v) := by
  obtain ⟨_, y | y⟩ := z
  · have := y.1; rw [hk] at this; rcases h1 with h | h <;> (rw [h] at this; nomatch this)
  · exact y.2
structure CompOk (scope sc : Scope) (cx cxf : Cx) : Prop where
  kind : scope.kind = .function
  free : ∀ x, (x, NameKind.free) ∈ scope.names → (∃ q ∈ cx, q.1 = x) ∧ (sc.names.lookup x = some .cell ∨ sc.names.lookup x = some .free)
  loc : ∀ x, (x, NameKind.local) ∈ scope.names → scope.names.lookup x = some .local
  own : ∀ q ∈ cxf, scope.names.lookup q.1 = some .free ∧ q.1 ∉ ownNames scope
theorem compOk_all {scope sc : Scope} {cx cxf : Cx} (hok : compOk scope sc cx cxf = true) : CompOk scope sc cx cxf := by
  simp only [compOk, Bool.and_eq_true, List.all_eq_true, Bool.or_eq_true, bne_iff_ne, beq_iff_eq, List.any_eq_true, Bool.not_eq_true', List.contains_eq_mem, decide_eq_false_iff_not] at hok
  exact ⟨hok.1.1, fun x h => ((hok.1.2 _ h).1).resolve_left fun e => e rfl, fun x h => ((hok.1.2 _ h).2).resolve_left fun e => e rfl, hok.2⟩
theorem free_cell {scope : Scope} {cxf : Cx} (O : CompOk scope sc cx cxf) (z : Vw G sc cx env s N) {x : Str} (hx : (x, NameKind.free) ∈ scope.names) : ∃ c v, env.cells.lookup x = some c ∧ s.heap.IsCell c (some v) := by
  have ⟨⟨q, hq, e⟩, hk⟩ := O.free x hx
  have ⟨v, hv⟩ := (z.vars q.1 q.2 hq).sees
  rw [e] at hv
  have ⟨c, a, b⟩ := hv.incell (show env.scope.names.lookup x = sc.names.lookup x by rw [z.envOk.scope]) hk
  exact ⟨c, v, a, b⟩
noncomputable def cEnv (scope : Scope) (L : Addr) (env : Env) (cl : List (Str × Addr)) : Env := { newEnv scope L env.globals (cellsFrom (L + 1) scope.names cl) env.qual none .none (some env) builtinsNs with scope := relabel scope env }
theorem cEnv_cells (scope : Scope) (L : Addr) (env : Env) (cl : List (Str × Addr)) : (cEnv scope L env cl).cells = cellsFrom (L + 1) scope.names [] ++ cl := cellsFrom_acc _ _ _
inductive CInv {α : Type} (G : Gs) (sc' : Scope) (on' : List Str) (cenv : Env) (xs : List α) (f : α → D) (p : α → Bool) (Wf : Nat → Wd) (wr : List Addr) (St : Nat → Heap → Prop) (X : Xs) (sB : Shared) (N2 : Lg) (D : Addr) (c : Nat) (s' : Shared) : Prop
  | mk (i : Nat) (ys : List Value) (N' N₁ : Lg) (X' : Xs) (oD : Obj) (e : Nat) (hc : c = xs.length + 1 - i) (hi : i ≤ xs.length) (hst : St i s'.heap) (hN : ∀ b ∈ wr, ∀ o, ¬ N' b o) (hX : ∀ q ∈ X' ++ [(D, oD)], q.1 ∉ wr) (hw : WX (Wf i) N₁ X' [(D, oD)]) (hall : AllX X X') (hsrc : ∀ p ∈ X', (∃ q ∈ X, q.1 = p.1) ∨ sB.heap.get? p.1 = none) (hle : ∀ a o, N2 a o → N₁ a o) (hnew : ∀ a o, N₁ a o → N2 a o ∨ sB.heap.get? a = none) (F : Fs G sc' on' ⟨X' ++ [(D, oD)], sB, N₁⟩ [] cenv s' N') (hDc : oD.cls = .type "list" ∧ oD.dict = none) (hDd : oD.data = .seq (List.toArray ys) e) (hR : Rps N' ys (((xs.take i).filter p).map f)) : CInv G sc' on' cenv xs f p Wf wr St X sB N2 D c s'
theorem comp_core {α : Type} {elt tgt iter : Expr} {ifs : List Expr} {scope : Scope} {pos ps : Pos} (xs : List α) (g : α → D) (p : α → Bool) (f : α → D) (Wf : Nat → Wd) (add : α → Cx) (cxf : Cx) (use : Option (Value → Sem Unit))
    {Q : Value → Shared → Prop} {E : Value → Shared → Prop} {X : Xs} (rm : Rm A n) (z : Vw G sc cx env s N) (hx : Hx X s N) (hw0 : (Wf 0).P N X) (hit : EvIX G n sc cx (Wf 0) iter tgt (xs.map g)) (hok : compOk scope sc cx cxf = true) (hsub : ∀ q ∈ cxf, q ∈ cx) (himm : X = [] ∨ ∀ q ∈ cxf, ∃ d, q.2 = .imm d)
    (htgt : ∀ x ∈ xs, Tgt G (relabelS scope sc) (ownNames scope) [] tgt (g x) (add x))
    (htest : ∀ x ∈ xs, EvTs G n (relabelS scope sc) (add x ++ cxf) ifs (p x)) (hskip : ∀ i x, xs[i]? = some x → p x = false → Wf (i + 1) = Wf i)
    (helt : ∀ i x, xs[i]? = some x → p x = true → EvX G n (relabelS scope sc) (add x ++ cxf) (Wf i) elt (Wf (i + 1)) (f x))
    (hsz : xs.length ≤ sizeLine)
    (fin : ∀ a C vs s' N' X', GrX X X' s N s' N' → (Wf xs.length).P N' X' → s.heap.get? a = none → s.heap.get? C = none → C ≠ a → (∀ o, ¬ N' a o) → (∀ o, ¬ N' C o) → (∀ p ∈ X', p.1 ≠ a ∧ p.1 ≠ C) → (∃ m, s'.heap.Ns C m) → LstAt s'.heap a vs.toArray → Rps N' vs ((xs.filter p).map f) →
      compPost G.M A E use Q (.ref a) C (.ok .next) s')
    (hs : ∀ env x, foldedSetIterable iter env x = pure x) :
    wpAny G.M A (comprehension (.ListComp elt [⟨tgt, iter, ifs, 0⟩] scope pos) scope env ps (newList []) false (eval iter env) use) Q E s := by
  have O := compOk_all hok
  obtain ⟨cl, hcl, hcl1, hcl2, hcl3⟩ := closureFor_ex fun x hx => let ⟨c, _, h, _⟩ := free_cell O z hx; ⟨c, h⟩
  have hnames : ∀ x ∈ scope.names, x.2 = .local → scope.names.lookup x.1 = some .local := fun x hx hl => O.loc x.1 (hl ▸ hx)
  with_reducible refine wpAny_comprehension_free rfl (hs env) hcl O.kind hnames (hit.go A env s N X rm z hx hw0 _ _ fun I wr s2 N2 St g2 hf hN IT hst => ?_)
  refine wpAny_newList ?_
  refine newCompEnv ?_
  have hwr2 : ∀ b ∈ wr, Odd s2.heap b := IT.odd _ _ hst
  have z2 := z.gr g2
  generalize hD : s2.heap.objs.size = D
  generalize hh3 : s2.heap.push { cls := .type "list", data := .seq ([] : List Value).toArray } = h3
  generalize hL : h3.objs.size = L
  have hLD : L = D + 1 := by rw [← hL, ← hh3, Heap.size_push, hD]
  generalize hh4 : pushCells (h3.push { cls := .type "dict", data := .dict #[] }) scope.names = h4
  have szh : (h3.push { cls := .type "dict", data := .dict #[] }).objs.size = L + 1 := by rw [Heap.size_push, hL]
  have keep24 : ∀ a o, s2.heap.get? a = some o → h4.get? a = some o := fun a o e => by
    rw [← hh4]; exact pushCells_keeps _ _ _ _ (Heap.get?_push_of_some _ (by rw [← hh3]; exact Heap.get?_push_of_some _ e))
  have hD4 : h4.get? D = some { cls := .type "list", data := .seq ([] : List Value).toArray } := by
    rw [← hh4]; exact pushCells_keeps _ _ _ _ (Heap.get?_push_of_some _ (by rw [← hh3, ← hD]; exact Heap.get?_push_size _ rfl))
  have hL4 : h4.Ns L (fun _ => none) := by
    rw [← hh4, ← hL]; exact (Heap.Ns.new h3 (.type "dict")).keeps (pushCells_keeps _ _)
  have hco := cellsFrom_ok scope.names (h3.push { cls := .type "dict", data := .dict #[] }) (L + 1) [] ⟨fun _ _ hm => (nomatch hm), List.Pairwise.nil⟩ (by rw [szh]; exact Nat.le_refl _)
  rw [szh, hh4] at hco
  have fresh2 : ∀ b, D ≤ b → s2.heap.get? b = none := fun b hb => Heap.get?_none_of_le (by rw [hD]; exact hb)
  have freshN : ∀ b, D ≤ b → ∀ o, ¬ N2 b o := fun b hb o e => by have := z2.hold _ _ e; rw [fresh2 b hb] at this; cases this
  have hDw : D ∉ wr := fun q => by obtain ⟨o, ho, _⟩ := hwr2 _ q; rw [fresh2 D (Nat.le_refl _)] at ho; cases ho
  show codeAny G.M A (.compStart (.ListComp elt [⟨tgt, iter, ifs, 0⟩] scope pos) 0 I (.ref D) (cEnv scope L env cl)) (compPost G.M A E use Q (.ref D) L) { s2 with heap := h4 }
  generalize hRR : compPost G.M A E use Q (.ref D) L = R
  generalize hce : cEnv scope L env cl = cenv
  have ceL : cenv.locals = L := by rw [← hce]; rfl
  have ceS : cenv.scope = relabelS scope sc := by rw [← hce]; show relabel scope env = _; rw [relabel_eq, z.envOk.scope]
  have ceC : cenv.cells = cellsFrom (L + 1) scope.names [] ++ cl := by rw [← hce]; exact cEnv_cells _ _ _ _
  have ceOk : EnvOk (relabelS scope sc) cenv := ⟨ceS, O.kind, by rw [← hce]; exact z.envOk.globals, by rw [← hce]; exact z.envOk.builtins⟩
  have kindC : ∀ y, cenv.kindOf y = (relabelS scope sc).names.lookup y := fun y => by show cenv.scope.names.lookup y = _; rw [ceS]
  have ownC : ∀ x ∈ ownNames scope, ∃ c, cenv.cells.lookup x = some c ∧ (cellsFrom (L + 1) scope.names []).lookup x = some c := fun x hx => by
    obtain ⟨c, hc⟩ := Option.isSome_iff_exists.mp (cellsFrom_some scope.names (L + 1) [] x (.inl hx))
    exact ⟨c, by rw [ceC, lookup_append', hc]; rfl, hc⟩
  have hx2 := hx.gr g2
  let er : List Addr := wr ++ X.map (·.1)
  let hBh := eraseH s2.heap er
  have getB : ∀ a o, hBh.get? a = some o → a ∉ er ∧ s2.heap.get? a = some o := fun a o e => by
    rw [eraseH_get] at e
    by_cases hw : a ∈ er
    · rw [if_pos hw] at e; cases e
    · rw [if_neg hw] at e; exact ⟨hw, e⟩
  have erw : ∀ a, a ∉ er → a ∉ wr := fun a h q => h (List.mem_append_left _ q)
  have erx : ∀ a, a ∉ er → ∀ p ∈ X, p.1 ≠ a := fun a h p hp q => h (List.mem_append_right _ (List.mem_map.mpr ⟨p, hp, q⟩))
  have toer : ∀ a, a ∉ wr → (∀ p ∈ X, p.1 ≠ a) → a ∉ er := fun a h1 h2 q => (List.mem_append.mp q).elim h1 fun q => by
    obtain ⟨p, hp, e⟩ := List.mem_map.mp q
    exact h2 p hp e
  have xcell : ∀ {c v}, s2.heap.IsCell c v → ∀ p ∈ X, p.1 ≠ c := fun {c v} ⟨o, e, d⟩ p hp q => by
    have := hx2.at_ p hp
    rw [q, e] at this; cases this
    exact hx2.nc p hp _ d
  have noneB : ∀ b, D ≤ b → hBh.get? b = none := fun b hb => by
    cases q : hBh.get? b with
    | none => rfl
    | some o => have := (getB b o q).2; rw [fresh2 b hb] at this; cases this
  have toB : ∀ a o, a ∉ er → s2.heap.get? a = some o → hBh.get? a = some o := fun a o hw e => by rw [eraseH_get, if_neg hw]; exact e
  have varsB : ∀ y t, (y, t) ∈ cxf → VarOk cenv hBh N2 y t := fun y t hy => by
    have ⟨hfr, hno⟩ := O.own _ hy
    have hmem : (y, NameKind.free) ∈ scope.names := PySem.mem_of_lookup hfr
    have hk := (O.free y hmem).2
    have kc : cenv.kindOf y = some .cell ∨ cenv.kindOf y = some .free := by
      rw [kindC, relabelS_lookup, hfr]
      simp only [Option.map_some]
      split
      · exact .inl rfl
      · exact .inr rfl
    have lk : ∀ c, env.cells.lookup y = some c → cenv.cells.lookup y = some c := fun c hc => by
      rw [ceC, lookup_append', cellsFrom_none hno]
      obtain ⟨c', hc'⟩ := Option.isSome_iff_exists.mp (hcl2 y hmem)
      rw [hc']
      have := hcl1 y c' hc'
      rw [hc] at this; cases this; rfl
    have see : ∀ v, Sees s.heap env y v → Sees hBh cenv y v := fun v hv => by
      have ⟨c, l, hcell⟩ := hv.incell (show env.scope.names.lookup y = sc.names.lookup y by rw [z.envOk.scope]) hk
      have hcell2 := hcell.keeps g2.keep
      have hcw : c ∉ er := toer _ (fun q => (hwr2 _ q).cell hcell2 rfl) (xcell hcell2)
      have ⟨o, e, r⟩ := hcell2
      exact ⟨hv.1, .inr ⟨kc, c, lk c l, ⟨o, toB _ _ hcw e, r⟩⟩⟩
    have z1 := z.vars y t (hsub _ hy)
    cases t with
    | imm d => obtain ⟨v, a, b⟩ := z1; exact ⟨v, see v a, b.mono g2.le⟩
    | lst ds =>
      rcases himm with hX | hi
      · obtain ⟨a, vs, b, ⟨o, c, d⟩, e⟩ := z1
        have hl2 : LstAt s2.heap a vs.toArray := ⟨o, g2.keep _ _ c, d⟩
        have haw : a ∉ er := toer a (fun q => (hwr2 _ q).list hl2 rfl) fun p hp => by rw [hX] at hp; nomatch hp
        exact ⟨a, vs, see _ b, ⟨o, toB _ _ haw (g2.keep _ _ c), d⟩, e.mono g2.le⟩
      · obtain ⟨d, hd⟩ := hi _ hy
        cases hd
  let sB : Shared := { s2 with heap := hBh }
  have F0 : Fs G (relabelS scope sc) (ownNames scope) ⟨X ++ [(D, { cls := .type "list", data := .seq ([] : List Value).toArray })], sB, N2⟩ [] cenv { s2 with heap := h4 } N2 := by
    refine { tp := z2.tp, hold := fun a o e => keep24 a o (z2.hold a o e), envOk := ceOk, vars := fun _ _ h => (nomatch h), keep := fun a o _ e => keep24 a o (getB a o e).2, le := fun _ _ e => e, new := fun _ _ e => .inl e, gens := rfl, os := rfl, loc := ⟨_, by rw [ceL]; exact hL4⟩, L0 := by rw [ceL]; exact noneB _ (by lia), LN := by rw [ceL]; exact freshN _ (by lia), cells := fun x hx => ?_, apart := fun x y c hx hcx hcy => ?_, ext := fun p hp => ?_, lists := ⟨fun _ => 0, fun _ _ h => (nomatch h), fun _ _ _ _ h => (nomatch h)⟩ }
    · obtain ⟨c, h1, h2⟩ := ownC x hx
      have h3 := hco.empty x c (PySem.mem_of_lookup h2)
      exact ⟨c, none, h1, h3.1, noneB _ (by have := h3.2; lia), freshN _ (by have := h3.2; lia)⟩
    · obtain ⟨c1, h1, h2⟩ := ownC x hx
      rw [hcx] at h1; cases h1
      have hge := (hco.empty x _ (PySem.mem_of_lookup h2)).2
      rw [ceC, lookup_append'] at hcy
      cases hy : (cellsFrom (L + 1) scope.names []).lookup y with
      | some c2 =>
        rw [hy] at hcy; cases hcy
        exact name_of_addr hco.apart (PySem.mem_of_lookup h2) (PySem.mem_of_lookup hy)
      | none =>
        rw [hy] at hcy
        have hcy' : cl.lookup y = some c := hcy
        exfalso
        have hmem := hcl3 y c hcy'
        have ⟨c3, v, l3, hcell⟩ := free_cell O z hmem
        rw [hcl1 y c hcy'] at l3; cases l3
        have ⟨o, e, _⟩ := hcell.keeps g2.keep
        rw [fresh2 c (by lia)] at e; nomatch e
    · have old : ∀ p ∈ X, p.1 < D := fun p hp => by
        rw [← hD]
        exact Heap.lt_size (hx2.at_ p hp)
      rcases List.mem_append.mp hp with hp | hp
      · refine ⟨keep24 _ _ (hx2.at_ p hp), hx2.out p hp, by rw [ceL, hLD]; exact Nat.ne_of_lt (Nat.lt_succ_of_lt (old p hp)), fun x hx e => ?_⟩
        obtain ⟨c, h1, h2⟩ := ownC x hx
        rw [h1] at e; cases e
        have h5 := (hco.empty x _ (PySem.mem_of_lookup h2)).2
        have h6 : p.1 < L := by rw [hLD]; exact Nat.lt_succ_of_lt (old p hp)
        exact absurd h5 (Nat.not_le_of_lt (Nat.lt_succ_of_lt h6))
      · rcases List.mem_singleton.mp hp with rfl
        refine ⟨hD4, freshN D (Nat.le_refl _), by rw [ceL, hLD]; exact Nat.ne_of_lt (Nat.lt_succ_self _), fun x hx e => ?_⟩
        obtain ⟨c, h1, h2⟩ := ownC x hx
        rw [h1] at e; cases e
        have := (hco.empty x _ (PySem.mem_of_lookup h2)).2
        lia
  have hwB : ∀ b ∈ wr, sB.heap.get? b = none := fun b hb => by show hBh.get? b = none; rw [eraseH_get, if_pos (List.mem_append_left _ hb)]
  have hDX : ∀ p ∈ X, p.1 ≠ D := fun p hp q => by have := hx2.at_ p hp; rw [q, fresh2 D (Nat.le_refl _)] at this; cases this
  let Inv : Nat → Shared → Prop := CInv G (relabelS scope sc) (ownNames scope) cenv xs f p Wf wr St X sB N2 D
  have loop : codeAny G.M A (.compLoop (.ListComp elt [⟨tgt, iter, ifs, 0⟩] scope pos) 0 I (.ref D) cenv) (R) { s2 with heap := h4 } := by
    refine comp_loop Inv ?_ (xs.length + 1)
      ⟨0, [], N2, N2, X, _, 0, rfl, Nat.zero_le _, IT.frame _ _ _ hst fun b hb => ?_, hN, fun q hq => ?_, ⟨(Wf 0).mono g2.le hw0, hx2.nc, fun p hp q hq => ?_⟩, fun q hq => ⟨q, hq, rfl⟩, fun p hp => .inl ⟨p, hp, rfl⟩, fun _ _ e => e, fun _ _ e => .inl e, F0, ⟨rfl, rfl⟩, rfl, by simpa using Rps.nil⟩
    rotate_left
    · obtain ⟨o, ho, _⟩ := hwr2 b hb
      exact (keep24 _ _ ho).trans ho.symm
    · rcases List.mem_append.mp hq with hq | hq
      · intro hw; have := hx.at_ q hq; rw [hf _ hw] at this; cases this
      · rcases List.mem_singleton.mp hq with rfl; exact hDw
    · rcases List.mem_singleton.mp hq with rfl; exact hDX p hp
    rintro c s' ⟨i, ys, N', N₁, X', oD, eD, hcc, hi, hst', hN', hXw, wX, hall, hsrc, hle1, hnew1, F', hDc, hDd, hR⟩
    subst hcc
    have hle : ∀ a o, N2 a o → N' a o := fun a o e => F'.le a o (hle1 a o e)
    by_cases hlt : i < xs.length
    · have hx : xs[i]? = some xs[i] := by simp [hlt]
      generalize xs[i] = x at hx
      have hxm : x ∈ xs := List.mem_of_getElem? hx
      have htake : xs.take (i + 1) = xs.take i ++ [x] := by rw [List.take_add_one, hx]; rfl
      have hlen : ys.length ≤ xs.length := by
        have h1 := hR.length
        rw [List.length_map] at h1
        have h2 := List.length_filter_le p (xs.take i)
        rw [List.length_take] at h2
        lia
      refine wpAny_mono (IT.next i s' N' (g x) (by rw [List.getElem?_map, hx]; rfl) hst' F'.toOk hle hN' (fun v s6 => wpAny G.M A (assign tgt cenv v) (fun _ s₂ =>
          wpAny G.M A (forIn ifs true fun c r => if r = true then do let ok ← isTrue c cenv (eval c cenv); pure (ForInStep.yield ok) else pure (ForInStep.yield r)) (fun ok s₃ =>
            if ok = true then wpAny G.M A (eval elt cenv) (fun x s₄ =>
              wpAny G.M A (call (.builtin "list.append") [.ref D, x]) (fun _ s₅ => ∃ m, m < xs.length + 1 - i ∧ Inv m s₅) (notedBy G.M A cenv fun e s' => R (.error e) s') s₄) (notedBy G.M A cenv fun e s' => R (.error e) s') s₃
            else ∃ m, m < xs.length + 1 - i ∧ Inv m s₃) (notedBy G.M A cenv fun e s' => R (.error e) s') s₂) (notedBy G.M A cenv fun e s' => R (.error e) s') s6) (notedBy G.M A cenv fun e s' => R (.error e) s') fun v s6 N6 g6 hst6 r6 => ?_) (fun r s7 h7 => ?_) (fun _ _ q => q)
      rotate_left
      · cases r with
        | none => exact h7.elim
        | some v => exact h7
      have F6 := F'.grw g6 (IT.odd _ _ hst') hwB hXw
      have hN6 : ∀ b ∈ wr, ∀ o, ¬ N6 b o := fun b hb o e => by
        rcases g6.new b o e with e | e
        · exact hN' b hb o e
        · obtain ⟨o', ho', _⟩ := IT.odd _ _ hst' b hb; rw [ho'] at e; cases e
      obtain ⟨F7, hB7⟩ := F6.ext_w (IT.odd _ _ hst6) hwB hN6
      have F7' : Fs G (relabelS scope sc) (ownNames scope) ⟨X' ++ (XW s6.heap wr ++ [(D, oD)]), sB, N6⟩ [] cenv s6 N6 := F7.reX fun p => mem_lc
      have wX7 : WX (Wf i) N6 X' (XW s6.heap wr ++ [(D, oD)]) := ⟨(Wf i).mono F6.le wX.p, wX.nc, fun p hp q hq e => by
        rcases List.mem_append.mp hq with hq | hq
        · exact hXw p (List.mem_append_left _ hp) (e ▸ (XW_mem hq).1)
        · exact wX.ap p hp q hq e⟩
      have view : ∀ s8 N8, Fs G (relabelS scope sc) (ownNames scope) ⟨X' ++ (XW s6.heap wr ++ [(D, oD)]), sB, N6⟩ (add x ++ []) cenv s8 N8 → Vw G (relabelS scope sc) (add x ++ cxf) cenv s8 N8 := fun s8 N8 F8 => by
        refine { F8.toOk with envOk := ceOk, vars := fun y t hy => ?_ }
        rcases List.mem_append.mp hy with hy | hy
        · exact F8.vars y t (List.mem_append_left _ hy)
        · refine (varsB y t hy).keeps (fun a o e => F8.keep a o (fun q hq => ?_) e) fun a o e => F8.le a o (F6.le a o (hle1 a o e))
          intro e'
          have hea : hBh.get? a = some o := e
          rcases List.mem_append.mp hq with hq | hq
          · rcases hsrc q hq with ⟨q', hq', e''⟩ | e''
            · exact erx a (getB a o hea).1 q' hq' (e''.trans e')
            · rw [e'] at e''
              have e3 : hBh.get? a = none := e''
              rw [e3] at hea; cases hea
          · rcases List.mem_append.mp hq with hq | hq
            · exact erw a (getB a o hea).1 (e' ▸ (XW_mem hq).1)
            · rcases List.mem_singleton.mp hq with rfl
              have h1 : D = a := e'
              have h2 := noneB D (Nat.le_refl _)
              rw [h1] at h2; rw [h2] at hea; cases hea
      refine (htgt x hxm).go A _ cenv s6 N6 v rm.handled F7' r6 _ _ fun s7 N7 F8 => ?_
      refine ((htest x hxm).go A cenv s7 N7 rm (view s7 N7 F8)).go _ _ fun s8 N8 g8 => ?_
      replace F8 := F8.gr g8
      have tail : ∀ (ys' : List Value) (cx8 : Cx) (s9 : Shared) (Nb N9 : Lg) (X9 : Xs) (oD' : Obj) (eD' : Nat), WX (Wf (i + 1)) Nb X9 (XW s6.heap wr ++ [(D, oD)]) → AllX X' X9 → Bse.Le ⟨X' ++ (XW s6.heap wr ++ [(D, oD)]), sB, N6⟩ ⟨X9 ++ (XW s6.heap wr ++ [(D, oD)]), sB, Nb⟩ → Fs G (relabelS scope sc) (ownNames scope) ⟨X9 ++ (XW s6.heap wr ++ [(D, oD')]), sB, Nb⟩ cx8 cenv s9 N9 → (oD'.cls = .type "list" ∧ oD'.dict = none) → oD'.data = .seq (List.toArray ys') eD' → Rps N9 ys' (((xs.take (i + 1)).filter p).map f) → ∃ m, m < xs.length + 1 - i ∧ Inv m s9 := fun ys' cx8 s9 Nb N9 X9 oD' eD' w9 hall9 hB9 F11 hDc' hDd' hR' => by
        have w1 : ∀ b ∈ wr, s9.heap.get? b = s6.heap.get? b := fun b hb => by
          obtain ⟨o, ho, _⟩ := IT.odd _ _ hst6 b hb
          exact (F11.ext (b, o) (List.mem_append_right _ (List.mem_append_left _ (mem_XW hb ho)))).1.trans ho.symm
        have w2 : ∀ b ∈ wr, ∀ o, ¬ N9 b o := fun b hb => by
          obtain ⟨o, ho, _⟩ := IT.odd _ _ hst6 b hb
          exact (F11.ext (b, o) (List.mem_append_right _ (List.mem_append_left _ (mem_XW hb ho)))).2.1
        have hX9w : ∀ q ∈ X9 ++ [(D, oD')], q.1 ∉ wr := fun q hq hw => by
          rcases List.mem_append.mp hq with hq | hq
          · obtain ⟨o, ho, _⟩ := IT.odd _ _ hst6 q.1 hw
            exact w9.ap q hq (q.1, o) (List.mem_append_left _ (mem_XW hw ho)) rfl
          · rcases List.mem_singleton.mp hq with rfl; exact hDw hw
        refine ⟨xs.length + 1 - (i + 1), by lia, i + 1, ys', N9, Nb, X9, oD', eD', rfl, hlt, IT.frame _ _ _ hst6 w1, w2, hX9w, ⟨w9.p, w9.nc, fun p hp q hq => ?_⟩, all_trans hall hall9, fun p hp => ?_, fun a o e => hB9.le a o (F6.le a o (hle1 a o e)), fun a o e => ?_, Fs.sub (Fs.ret_w (B := ⟨X9 ++ [(D, oD')], sB, Nb⟩) (h := s6.heap) (wr := wr) (N2 := Nb) (F11.reX fun p => ?_) ⟨rfl, fun q hq => ?_, fun _ _ e => e, fun _ _ e => .inl e⟩) (fun _ h => (nomatch h)), hDc', hDd', hR'⟩
        · rcases List.mem_singleton.mp hq with rfl
          exact w9.ap p hp (D, oD) (List.mem_append_right _ (.head _))
        · rcases hB9.x p (List.mem_append_left _ hp) with ⟨q, hq, e⟩ | e
          · rcases List.mem_append.mp hq with hq | hq
            · rcases hsrc q hq with ⟨q', hq', e'⟩ | e'
              · exact .inl ⟨q', hq', e'.trans e⟩
              · exact .inr (e ▸ e')
            · rcases List.mem_append.mp hq with hq | hq
              · exact .inr (e ▸ hwB _ (XW_mem hq).1)
              · rcases List.mem_singleton.mp hq with rfl
                exact .inr (e ▸ noneB D (Nat.le_refl _))
          · exact .inr e
        · rcases hB9.new a o e with e | e
          · rcases F6.new a o e with e | e
            · exact hnew1 a o e
            · exact .inr e
          · exact .inr e
        · exact mem_lc
        · rcases List.mem_append.mp hq with hq | hq
          · exact .inr (hwB _ (XW_mem hq).1)
          · exact .inl ⟨q, hq, rfl⟩
      cases hp : p x with
      | false =>
        simp only [Bool.false_eq_true, if_false]
        refine tail ys _ s8 N6 N8 X' oD eD (hskip i x hx hp ▸ wX7) (fun q hq => ⟨q, hq, rfl⟩) (.refl _) F8 hDc hDd ?_
        have hfx : [x].filter p = [] := by simp [hp]
        rw [htake, List.filter_append, hfx, List.append_nil]
        exact hR.mono fun a o e => F8.le a o (g6.le a o e)
      | true =>
      simp only [if_true]
      refine (helt i x hx hp).go A cenv s8 N8 X' rm (view s8 N8 F8) (wX7.hx F8) (wX7.now F8) _ _ fun y s9 N9 X9 g9 hw9 r9 => ?_
      obtain ⟨w9, hall9, hB9, F9⟩ := wX7.step F8 g9 hw9
      have hDm : (D, oD) ∈ X9 ++ (XW s6.heap wr ++ [(D, oD)]) := List.mem_append_right _ (List.mem_append_right _ (.head _))
      have hDnow : s9.heap.get? D = some oD := (F9.ext (D, oD) hDm).1
      refine append_lst (by simp only [List.size_toArray]; lia) ⟨oD, hDnow, hDc, eD, hDd⟩ fun h10 hl10 hs10 => ?_
      obtain ⟨oD', hD', hDc', eD', hDd'⟩ := hl10
      have F11 := F9.setX (X' := X9 ++ (XW s6.heap wr ++ [(D, oD')])) (h' := h10) (tk := s9.toks) (fun q hq v => ?_) (fun q hq => ?_) (fun q hq => ?_) (fun q hq => ?_) (fun b hb => hs10.2 b fun e => hb (D, oD) hDm e.symm)
      · refine tail (ys ++ [y]) _ _ N9 N9 X9 oD' eD' w9 hall9 hB9 F11 hDc' (by rw [hDd']; simp) ?_
        have hfx : [x].filter p = [x] := by simp [hp]
        rw [htake, List.filter_append, hfx, List.map_append]
        exact (hR.mono fun a o e => F9.le a o (hB9.le a o (g6.le a o e))).append (.one r9)
      · rcases List.mem_append.mp hq with hq | hq
        · exact w9.nc q hq v
        · rcases List.mem_append.mp hq with hq | hq
          · obtain ⟨o, ho, _, h2, _⟩ := IT.odd _ _ hst6 _ (XW_mem hq).1
            rw [(XW_mem hq).2] at ho; cases ho; exact h2 v
          · rcases List.mem_singleton.mp hq with rfl
            show oD.data ≠ _
            rw [hDd]; simp
      · rcases List.mem_append.mp hq with hq | hq
        · exact ⟨q, List.mem_append_left _ hq, rfl⟩
        · rcases List.mem_append.mp hq with hq | hq
          · exact ⟨q, List.mem_append_right _ (List.mem_append_left _ hq), rfl⟩
          · rcases List.mem_singleton.mp hq with rfl
            exact ⟨(D, oD), hDm, rfl⟩
      · rcases List.mem_append.mp hq with hq | hq
        · exact ⟨q, List.mem_append_left _ hq, rfl⟩
        · rcases List.mem_append.mp hq with hq | hq
          · exact ⟨q, List.mem_append_right _ (List.mem_append_left _ hq), rfl⟩
          · rcases List.mem_singleton.mp hq with rfl
            exact ⟨(D, oD'), List.mem_append_right _ (List.mem_append_right _ (.head _)), rfl⟩
      · rcases List.mem_append.mp hq with hq | hq
        · have z9 := F9.ext q (List.mem_append_left _ hq)
          refine (hs10.2 q.1 fun e => ?_).trans z9.1
          exact w9.ap q hq (D, oD) (List.mem_append_right _ (.head _)) e
        · rcases List.mem_append.mp hq with hq | hq
          · have z9 := F9.ext q (List.mem_append_right _ (List.mem_append_left _ hq))
            refine (hs10.2 q.1 fun e => ?_).trans z9.1
            exact hDw (e ▸ (XW_mem hq).1)
          · rcases List.mem_singleton.mp hq with rfl
            exact hD'
    · have hie : i = xs.length := by lia
      subst hie
      refine IT.stop s' N' (by rw [List.length_map]; exact hst') F'.toOk hle hN' _ _ fun s6 g6 => ?_
      have F6 := F'.grw g6 (IT.odd _ _ hst') hwB hXw
      have hDm : (D, oD) ∈ X' ++ [(D, oD)] := List.mem_append_right _ (.head _)
      have hDnow : s6.heap.get? D = some oD := (F6.ext (D, oD) hDm).1
      have back : ∀ a, sB.heap.get? a = none → (∃ q ∈ X, q.1 = a) ∨ s.heap.get? a = none := fun a e => by
        by_cases hq : ∃ q ∈ X, q.1 = a
        · exact .inl hq
        · right
          cases q : s.heap.get? a with
          | none => rfl
          | some o' =>
            have hw : a ∉ wr := fun q' => by rw [hf a q'] at q; cases q
            have := toB a o' (toer a hw fun p hp e' => hq ⟨p, hp, e'⟩) (g2.keep a o' q)
            have e' : hBh.get? a = none := e
            rw [e'] at this; cases this
      have gr : GrX X X' s N s6 N' := by
        refine ⟨fun a o hp e => ?_, fun a o e => F6.le a o (hle1 a o (g2.le a o e)), fun a o e => ?_, F6.hold, F6.gens.trans g2.gens, F6.os.trans g2.os, wX.hx F6, fun p hp => ?_, hall⟩
        · have hw : a ∉ wr := fun q => by rw [hf a q] at e; cases e
          refine F6.keep a o (fun q hq e' => ?_) (toB a o (toer a hw hp) (g2.keep a o e))
          rcases List.mem_append.mp hq with hq | hq
          · rcases hsrc q hq with ⟨q', hq', e''⟩ | e''
            · exact hp q' hq' (e''.trans e')
            · rw [e'] at e''
              have := toB a o (toer a hw hp) (g2.keep a o e)
              have e3 : hBh.get? a = none := e''
              rw [e3] at this; cases this
          · rcases List.mem_singleton.mp hq with rfl
            have h1 : D = a := e'
            have h2 := g2.keep a o e
            rw [← h1, fresh2 D (Nat.le_refl _)] at h2; cases h2
        · have e1 : N₁ a o ∨ sB.heap.get? a = none := F6.new a o e
          have e2 : N2 a o ∨ sB.heap.get? a = none := e1.elim (hnew1 a o) .inr
          rcases e2 with e2 | e2
          · exact g2.new a o e2
          · rcases back a e2 with ⟨q, hq, e3⟩ | e3
            · exfalso
              obtain ⟨p, hp, e4⟩ := hall q hq
              exact (F6.ext p (List.mem_append_left _ hp)).2.1 o (e4.trans e3 ▸ e)
            · exact .inr e3
        · rcases hsrc p hp with h | h
          · exact .inl h
          · exact back _ h
      rw [List.take_length] at hR
      rw [← hRR]
      refine fin D L ys s6 N' X' gr ((Wf xs.length).mono F6.le wX.p) (none_of_keep g2.keep (fresh2 D (Nat.le_refl _))) (none_of_keep g2.keep (fresh2 L (by rw [hLD]; exact Nat.le_succ _))) (by rw [hLD]; exact Nat.succ_ne_self _) (F6.ext (D, oD) hDm).2.1 (by rw [← ceL]; exact F6.LN) (fun p hp => ⟨wX.ap p hp (D, oD) (.head _), by rw [← ceL]; exact (F6.ext p (List.mem_append_left _ hp)).2.2.1⟩) (by rw [← ceL]; exact F6.loc) ⟨oD, hDnow, hDc, eD, hDd⟩ hR
  exact codeAny_compStart_list loop (IT.self 0 _ _ _ (fun a o e => keep24 a o (z2.hold a o e)) (IT.frame _ _ _ hst fun b hb => by obtain ⟨o, ho, _⟩ := hwr2 b hb; exact (keep24 _ _ ho).trans ho.symm) loop)
end
end Mine
end
section
set_option tactic.hygienic false
open PySem PySem.W PyProof.Rows
namespace Mine
section
variable {G : Gs} {n : Nat} {A : Around} {sc : Scope} {on : List Str} {B : Bse} {cx : Cx} {env : Env} {s : Shared} {N : Lg} {W W' : Wd}
theorem hx0 : Hx [] s N := ⟨fun _ h => (nomatch h), fun _ h => (nomatch h), fun _ h => (nomatch h)⟩
theorem GrX.toGr {X' : Xs} {s' : Shared} {N' : Lg} (g : GrX [] X' s N s' N') : Gr s N s' N' := ⟨fun a o e => g.keep a o (fun _ h => (nomatch h)) e, g.le, g.new, g.hold, g.gens, g.os⟩
theorem EvM.filt {α : Type} {elt tgt iter : Expr} {ifs : List Expr} {scope : Scope} {pos : Pos} (xs : List α) (g : α → D) (p : α → Bool) (f : α → D) (add : α → Cx) (cxf : Cx)
    (hit : EvI G n sc cx iter tgt (xs.map g)) (hok : compOk scope sc cx cxf = true) (hsub : ∀ q ∈ cxf, q ∈ cx)
    (htgt : ∀ x ∈ xs, Tgt G (relabelS scope sc) (ownNames scope) [] tgt (g x) (add x))
    (htest : ∀ x ∈ xs, EvTs G n (relabelS scope sc) (add x ++ cxf) ifs (p x))
    (helt : ∀ x ∈ xs, p x = true → Ev G n (relabelS scope sc) (add x ++ cxf) elt (f x))
    (hsz : xs.length ≤ sizeLine)
    (hs : ∀ env x, foldedSetIterable iter env x = pure x := by intro _ _; rfl) : EvM G n sc cx (.ListComp elt [⟨tgt, iter, ifs, 0⟩] scope pos) ((xs.filter p).map f) := by
  refine ⟨fun A env s N rm z => ⟨fun Q E k => ?_⟩⟩
  rw [eval_ListComp]
  refine comp_core xs g p f (fun _ => Wd.any) add cxf none rm z (X := []) hx0 trivial (EvIX.pure hit) hok hsub (.inl rfl) htgt htest (fun _ _ _ _ => rfl) (fun i x hx hp => EvX.pure (helt x (List.mem_of_getElem? hx) hp)) hsz (fun a C vs s' N' X' gx _ ha hC hCa hNa hNC _ hm hl hr => ?_) hs
  have gr := gx.toGr
  obtain ⟨m, hm⟩ := hm
  refine ⟨m, hm, fun h' hs' => ?_⟩
  refine k a vs _ N' ⟨fun b o e => (hs'.2 b fun q => ?_).trans (gr.keep b o e), gr.le, gr.new, fun b o e => (hs'.2 b fun q => hNC o (q ▸ e)).trans (gr.hold b o e), gr.gens, gr.os⟩ ha hNa ?_ hr
  · rw [q, hC] at e; cases e
  · obtain ⟨o, h1, h2⟩ := hl
    exact ⟨o, (hs'.2 a (Ne.symm hCa)).trans h1, h2⟩
theorem EvM.map {α : Type} {elt tgt iter : Expr} {scope : Scope} {pos : Pos} (xs : List α) (g : α → D) (f : α → D) (add : α → Cx) (cxf : Cx)
    (hit : EvI G n sc cx iter tgt (xs.map g)) (hok : compOk scope sc cx cxf = true) (hsub : ∀ q ∈ cxf, q ∈ cx)
    (htgt : ∀ x ∈ xs, Tgt G (relabelS scope sc) (ownNames scope) [] tgt (g x) (add x))
    (helt : ∀ x ∈ xs, Ev G n (relabelS scope sc) (add x ++ cxf) elt (f x))
    (hsz : xs.length ≤ sizeLine)
    (hs : ∀ env x, foldedSetIterable iter env x = pure x := by intro _ _; rfl) : EvM G n sc cx (.ListComp elt [⟨tgt, iter, [], 0⟩] scope pos) (xs.map f) := by
  have := EvM.filt (pos := pos) xs g (fun _ => true) f add cxf hit hok hsub htgt (fun _ _ => EvTs.nil) (fun x hx _ => helt x hx) hsz hs
  rwa [List.filter_eq_self.mpr (fun _ _ => rfl)] at this

theorem EvX.map {α : Type} {elt tgt iter : Expr} {scope : Scope} {pos : Pos} (xs : List α) (g : α → D) (f : α → D) (Wf : Nat → Wd) (add : α → Cx) (cxf : Cx)
    (hit : EvIX G n sc cx (Wf 0) iter tgt (xs.map g)) (hok : compOk scope sc cx cxf = true) (hsub : ∀ q ∈ cxf, q ∈ cx) (himm : ∀ q ∈ cxf, ∃ d, q.2 = .imm d)
    (htgt : ∀ x ∈ xs, Tgt G (relabelS scope sc) (ownNames scope) [] tgt (g x) (add x))
    (helt : ∀ i x, xs[i]? = some x → EvX G n (relabelS scope sc) (add x ++ cxf) (Wf i) elt (Wf (i + 1)) (f x))
    (hsz : xs.length ≤ sizeLine)
    (hs : ∀ env x, foldedSetIterable iter env x = Pure.pure x := by intro _ _; rfl) : EvX G n sc cx (Wf 0) (.ListComp elt [⟨tgt, iter, [], 0⟩] scope pos) (Wf xs.length) (.list (xs.map f)) := by
  refine ⟨fun A env s N X rm z hx hw Q E k => ?_⟩
  rw [eval_ListComp]
  refine comp_core xs g (fun _ => true) f Wf add cxf none rm z hx hw hit hok hsub (.inr himm) htgt (fun _ _ => EvTs.nil) (fun _ _ _ h => nomatch h) (fun i x h _ => helt i x h) hsz (fun a C vs s' N' X' gr hw' ha hC hCa hNa hNC hXa hm hl hr => ?_) hs
  obtain ⟨m, hm⟩ := hm
  refine ⟨m, hm, fun h' hs' => ?_⟩
  obtain ⟨o, h1, h2, nn, h3⟩ := hl
  have ho : h'.get? a = some o := (hs'.2 a (Ne.symm hCa)).trans h1
  have le : ∀ b q, N' b q → (N'.add a o) b q := Lg.add_le N' a o
  refine k (.ref a) { s' with heap := h' } (N'.add a o) X' ⟨fun b q hb e => (hs'.2 b fun e' => ?_).trans (gr.keep b q hb e), fun b q e => .inl (gr.le b q e), fun b q e => ?_, fun b q e => ?_, gr.gens, gr.os, ⟨fun p hp => (hs'.2 _ (hXa p hp).2).trans (gr.hx.at_ p hp), fun p hp q e => ?_, gr.hx.nc⟩, gr.src, gr.all⟩ ((Wf xs.length).mono le hw') (.list (o := o) (n := nn) (.inr ⟨rfl, rfl⟩) h2.1 h3 (by rw [List.filter_eq_self.mpr (fun _ _ => rfl)] at hr; exact hr.mono le))
  · rw [e', hC] at e; cases e
  · rcases e with e | ⟨rfl, rfl⟩
    · exact gr.new b q e
    · exact .inr ha
  · rcases e with e | ⟨rfl, rfl⟩
    · exact (hs'.2 b fun e' => hNC q (e' ▸ e)).trans (gr.hold b q e)
    · exact ho
  · rcases e with e | ⟨e, _⟩
    · exact gr.hx.out p hp q e
    · exact (hXa p hp).1 e
structure ChL (W : Wd) (a : Addr) (ds es : List D) (W' : Wd) : Prop where
  go : ∀ N X, W.P N X → ∃ X1 X2 vs nn, X = X1 ++ (a, listOf vs.toArray nn) :: X2 ∧ (∀ p ∈ X1 ++ X2, p.1 ≠ a) ∧ Rps N vs ds ∧
    ∀ N' ws nn', (∀ a o, N a o → N' a o) → Rps N' ws es → W'.P N' (X1 ++ (a, listOf ws.toArray nn') :: X2)
theorem listOf_cls (its : Array Value) (nn : Nat) : (listOf its nn).cls = .type "list" := rfl
theorem EvX.pop0 {o : Expr} {apos pos p0 : Pos} {kk : Nat} {a : Addr} {d : D} {ds : List D} (he : EvR G n sc cx W o (.ref a)) (hc : ChL W a (d :: ds) ds W') (hsz : ds.length < sizeLine)
    (hb : ∀ env, attributeBase o "pop" env (eval o env) = eval o env := by intro _; rfl)
    (ht : ∀ env, ((((backTo pos (starEach [Expr.Constant (.int 0) kk p0] env)).all fun x => !x.fst) && (backToKw pos (keywordEach [] env)).all fun x => x.fst.isSome) && decide (([Expr.Constant (.int 0) kk p0].length + ([] : List Keyword).length + if ([] : List Keyword).isEmpty = true then 0 else 1) < 30)) = true := by intro _; rfl)
    (hst : ∀ env, starEach [Expr.Constant (.int 0) kk p0] env = (false, eval (.Constant (.int 0) kk p0) env) :: starEach [] env := by intro _; rfl)
    (hl : (apos.endLine == pos.line) = true := by rfl) : EvX G n sc cx W (.Call (.Attribute o "pop" apos) [.Constant (.int 0) kk p0] [] pos) W' d := by
  refine ⟨fun A env s N X rm z hx hw Q E k => ?_⟩
  with_reducible refine wpAny_Call_method_lateS (hb env) (ht env) hl (he.go A env s N X rm z hx hw _ _ fun v s1 N1 g1 r1 => ?_)
  have hx1 := hx.gr g1
  have hw1 := W.mono g1.le hw
  refine r1.eRef ?_
  obtain ⟨X1, X2, vs, nn, hX, hdis, hR, hput⟩ := hc.go _ _ hw1
  have hat : s1.heap.get? a = some (listOf vs.toArray nn) := hx1.at_ (a, listOf vs.toArray nn) (by rw [hX]; exact List.mem_append_right _ (.head _))
  refine ⟨"list", "list.pop", PySem.F.plainAttrs_list, PySem.F.slot_list_pop, PySem.F.type_list_pop, ⟨_, hat, rfl⟩, fun b eb => by cases eb; exact ⟨_, hat, rfl⟩, ?_⟩
  with_reducible refine PyProof.Rows.callWith_method1 ?_ (hst env) (by with_unfolding_all rfl)
  refine (EvL.cons Ev.int .nil hst).go A env s1 N1 pos rm (z.gr g1) _ _ fun us s2 N2 g2 r2 => ?_
  obtain ⟨u, rfl, r3⟩ : ∃ v, us = [v] ∧ Rp N2 v (.int 0) := r2.e1 fun v r => ⟨v, rfl, r⟩
  cases r3 with | int _ t =>
  have hat2 := g2.keep _ _ hat
  cases hR with | @cons v ws _ _ rv rs =>
  have hx2 := hx1.gr g2
  have ok2 := ((z.gr g1).gr g2).toOk
  refine call_meets PySem.F.slot_list_pop ⟨_, hat2, rfl⟩ PySem.F.entry_list_pop (PySem.F.args_list_pop_2 _ _) (PySem.MeetsSeq.list_pop_at a _ nn 0 t 0 v (by rfl) (by simp [seqIndex?]) (by simp) (by simp; have := rs.length; lia)) ⟨hat2, ?_⟩
  obtain ⟨m, q⟩ : ∃ m, IsL (s2.heap.update a (Obj.mapSeq fun xs => xs.eraseIdxIfInBounds 0)) a ((v :: ws).toArray.eraseIdxIfInBounds 0) m := ⟨_, PySem.IsL.update hat2 fun xs => xs.eraseIdxIfInBounds 0⟩
  have e0 : ((v :: ws).toArray.eraseIdxIfInBounds 0) = ws.toArray := kl_erase [] ws v
  rw [e0] at q
  have gs := GrX.set (tk := s2.toks) (o' := listOf ws.toArray m) ok2 hx2 hX hdis q (fun b hb => Heap.get?_update_other _ _ (Ne.symm hb)) (fun v => by simp)
  exact k v _ N2 _ (((g1.trans g2).x hx).trans gs hx) (hput N2 ws m g2.le (rs.mono g2.le)) (rv.mono g2.le)
theorem EvX.push {o e : Expr} {apos pos : Pos} {a : Addr} {d : D} {ds : List D} (he : EvR G n sc cx W o (.ref a)) (hi : Ev G n sc cx e d) (hc : ChL W a ds (ds ++ [d]) W') (hsz : ds.length ≤ sizeLine)
    (hb : ∀ env, attributeBase o "append" env (eval o env) = eval o env := by intro _; rfl)
    (ht : ∀ env, ((((backTo pos (starEach [e] env)).all fun x => !x.fst) && (backToKw pos (keywordEach [] env)).all fun x => x.fst.isSome) && decide (([e].length + ([] : List Keyword).length + if ([] : List Keyword).isEmpty = true then 0 else 1) < 30)) = true := by intro _; rfl)
    (hst : ∀ env, starEach [e] env = (false, eval e env) :: starEach [] env := by intro _; rfl)
    (hl : (apos.endLine == pos.line) = true := by rfl) : EvX G n sc cx W (.Call (.Attribute o "append" apos) [e] [] pos) W' .none := by
  refine ⟨fun A env s N X rm z hx hw Q E k => ?_⟩
  with_reducible refine wpAny_Call_method_lateS (hb env) (ht env) hl (he.go A env s N X rm z hx hw _ _ fun v s1 N1 g1 r1 => ?_)
  have hx1 := hx.gr g1
  have hw1 := W.mono g1.le hw
  refine r1.eRef ?_
  obtain ⟨X1, X2, vs, nn, hX, hdis, hR, hput⟩ := hc.go _ _ hw1
  have hat : s1.heap.get? a = some (listOf vs.toArray nn) := hx1.at_ (a, listOf vs.toArray nn) (by rw [hX]; exact List.mem_append_right _ (.head _))
  refine ⟨"list", "list.append", PySem.F.plainAttrs_list, slot_list_append, type_list_append, ⟨_, hat, rfl⟩, fun b eb => by cases eb; exact ⟨_, hat, rfl⟩, ?_⟩
  with_reducible refine PyProof.Rows.callWith_method1 ?_ (hst env) (by with_unfolding_all rfl)
  refine (EvL.cons hi .nil hst).go A env s1 N1 pos rm (z.gr g1) _ _ fun us s2 N2 g2 r2 => ?_
  obtain ⟨u, rfl, r3⟩ : ∃ v, us = [v] ∧ Rp N2 v d := r2.e1 fun v r => ⟨v, rfl, r⟩
  have hat2 := g2.keep _ _ hat
  have hx2 := hx1.gr g2
  have ok2 := ((z.gr g1).gr g2).toOk
  have hlen := hR.length
  refine wpAny_call_entry slot_list_append ⟨_, hat2, rfl⟩ entry_list_append ?_ (args_list_append _ _)
  show wpAny _ _ (updateSeq a (·.push u) >>= fun _ => ret .none) _ _ s2
  refine wpAny_bind ?_
  refine wpAny_updateSeq hat2 rfl (wpAny_pure ⟨.none, rfl, ?_⟩) (by simp only [List.size_toArray]; lia)
  obtain ⟨m, q⟩ : ∃ m, IsL (s2.heap.update a (Obj.mapSeq (·.push u))) a (vs.toArray.push u) m := ⟨_, PySem.IsL.update hat2 (·.push u)⟩
  have e0 : vs.toArray.push u = (vs ++ [u]).toArray := by simp
  rw [e0] at q
  have gs := GrX.set (tk := s2.toks) (o' := listOf (vs ++ [u]).toArray m) ok2 hx2 hX hdis q (fun b hb => Heap.get?_update_other _ _ (Ne.symm hb)) (fun v => by simp)
  exact k .none _ N2 _ (((g1.trans g2).x hx).trans gs hx) (hput N2 (vs ++ [u]) m g2.le ((hR.mono g2.le).append (.one r3))) .none
theorem EvX.smeth1 {o e : Expr} {name : Str} {id : String} {apos pos : Pos} {x : Str} {d1 d : D} (hm : Mt name id) (ho : Ev G n sc cx o (.str x)) (ha : EvX G n sc cx W e W' d1) (hc : Fn G n (.builtin id) [.str x, d1] d)
    (hst : ∀ env, starEach [e] env = (false, eval e env) :: starEach [] env := by intro _; rfl)
    (hb : ∀ env, attributeBase o name env (eval o env) = eval o env := by intro _; rfl)
    (ht : ∀ env, ((((backTo pos (starEach [e] env)).all fun x => !x.fst) && (backToKw pos (keywordEach [] env)).all fun x => x.fst.isSome) && decide (([e].length + ([] : List Keyword).length + if ([] : List Keyword).isEmpty = true then 0 else 1) < 30)) = true := by intro _; rfl)
    (hl : (apos.endLine == pos.line) = true := by rfl) : EvX G n sc cx W (.Call (.Attribute o name apos) [e] [] pos) W' d := by
  refine ⟨fun A env s N X rm z hx hw Q E k => ?_⟩
  with_reducible refine wpAny_Call_method_lateS (hb env) (ht env) hl ((ho.go A env s N rm z).go _ _ fun v s1 N1 g1 r1 => ?_)
  have hx1 := hx.gr g1
  refine r1.eStr ?_; intro t
  refine ⟨"str", id, F.plainAttrs_str, hm.slot, hm.type, typeIs_str _ _ _, fun a e => (nomatch e), ?_⟩
  with_reducible refine PyProof.Rows.callWith_method1 ?_ (hst env) (by with_unfolding_all rfl)
  with_reducible refine args_cons (ha.go A env s1 N1 X rm (z.gr g1) hx1 (W.mono g1.le hw) _ _ fun v s2 N2 X2 g2 hw2 r2 => args_nil ?_) (hst env)
  have ok2 := g2.ok (z.gr g1).toOk
  exact (hc.go A s2 N2 _ rm ok2 (.cons (.str _ _) (.one r2))).go _ _ fun v s3 N3 g3 r3 => k _ _ _ X2 (((g1.x hx).trans g2 hx).trans (g3.x g2.hx) hx) (W'.mono g3.le hw2) r3
variable {Q : Flow → Shared → Prop} {E : Value → Shared → Prop} {rest : List Stmt}
theorem asgC {α : Type} {elt tgt iter : Expr} {ifs : List Expr} {scope : Scope} {pos p p' : Pos} {x : Str} (xs : List α) (g : α → D) (q : α → Bool) (f : α → D) (add : α → Cx) (cxf : Cx)
    (F : Fs G sc on B cx env s N) (rm : Rm A n) (hsw : swapS sc scope x p pos = true) (hx : canSt sc on cx x = true)
    (hit : EvI G n sc cx iter tgt (xs.map g)) (hok : compOk scope sc cx cxf = true) (hsub : ∀ q ∈ cxf, q ∈ cx)
    (htgt : ∀ x ∈ xs, Tgt G (relabelS scope sc) (ownNames scope) [] tgt (g x) (add x))
    (htest : ∀ x ∈ xs, EvTs G n (relabelS scope sc) (add x ++ cxf) ifs (q x))
    (helt : ∀ x ∈ xs, q x = true → Ev G n (relabelS scope sc) (add x ++ cxf) elt (f x))
    (hsz : xs.length ≤ sizeLine)
    (k : ∀ s' N', Fs G sc on B ((x, .lst ((xs.filter q).map f)) :: cx) env s' N' → Wp G A (execs rest env) Q E s')
    (hs : ∀ env x, foldedSetIterable iter env x = pure x := by intro _ _; rfl) : Wp G A (execs (.Assign [.Name x p] (.ListComp elt [⟨tgt, iter, ifs, 0⟩] scope pos) p' :: rest) env) Q E s := by
  obtain ⟨h1, h2, h3⟩ := canSt.all hx
  refine wseq ⟨?_⟩
  rw [exec_Assign_Name_used _ _ _ _ ((swaps_eq F.envOk).trans (by rw [hsw]))]
  refine wpAny_bind (wpAny_standAt (wpAny_bind ?_))
  show wpAny G.M A (do let _ ← comprehension (.ListComp elt [⟨tgt, iter, ifs, 0⟩] scope pos) scope env _ (newList []) false (eval iter env) (some (assign (.Name x p) env))) _ _ s
  refine wpAny_bind (wpAny_mono (comp_core (Q := fun _ s' => Wp G A (execs rest env) Q E s') xs g q f (fun _ => Wd.any) add cxf (some (assign (.Name x p) env)) rm F.toVw (X := []) hx0 trivial (EvIX.pure hit) hok hsub (.inl rfl) htgt htest (fun _ _ _ _ => rfl) (fun i x hx hp => EvX.pure (helt x (List.mem_of_getElem? hx) hp)) hsz (fun a C vs s' N' X' gx _ ha hC hCa hNa hNC _ hm hl hr => ?_) hs) (fun _ s' hq => wpAny_pure (wpAny_pure hq)) fun _ _ e => e)
  have gr := gx.toGr
  obtain ⟨m, oC, es, ep, hCo, hCd, hCr⟩ := hm
  have F1 := F.gr gr
  have hCL : C ≠ env.locals := fun e => by obtain ⟨m', o', es', ep', h', _⟩ := F.loc; rw [← e, hC] at h'; cases h'
  have hCX : ∀ p ∈ B.X, p.1 ≠ C := fun p hp e => by have := (F.ext p hp).1; rw [e, hC] at this; cases this
  have hC0 : B.s₀.heap.get? C = none := by
    cases q : B.s₀.heap.get? C with
    | none => rfl
    | some o => rw [F.keep C o hCX q] at hC; cases hC
  have hCc : ∀ x ∈ on, env.cells.lookup x ≠ some C := fun y hy e => by
    obtain ⟨c, v, h4, ⟨o, h5, _⟩, _⟩ := F.cells y hy
    rw [h4] at e; cases e; rw [hC] at h5; cases h5
  have hCl : ∀ vs, ¬ LstAt s'.heap C vs := fun vs ⟨o, h4, _, n, h5⟩ => by rw [hCo] at h4; cases h4; rw [hCd] at h5; cases h5
  have F2 : Fs G sc on ⟨(C, oC) :: B.X, B.s₀, B.N₀⟩ cx env s' N' := by
    refine { F1 with keep := fun a o h e => F1.keep a o (fun p hp => h p (.tail _ hp)) e, ext := fun p hp => ?_, lists := ?_ }
    · rcases List.mem_cons.mp hp with rfl | hp
      · exact ⟨hCo, hNC, hCL, hCc⟩
      · exact F1.ext p hp
    · obtain ⟨al, g1, g2⟩ := F1.lists
      refine ⟨al, fun y ds hy => ?_, g2⟩
      obtain ⟨ws, i1, i2, i3, i4, i5, i6⟩ := g1 y ds hy
      refine ⟨ws, i1, i2, i3, i4, i5, fun p hp => ?_⟩
      rcases List.mem_cons.mp hp with rfl | hp
      · exact fun (e : C = al y) => hCl _ (e ▸ i2)
      · exact i6 p hp
  obtain ⟨j1, j2, j3⟩ := fresh_list F gr ha
  show wpAny G.M A (assign (.Name x p) env (.ref a)) _ _ _
  refine wpAny_assign_Name (F2.storeM h2 h1 h3 hl hr j2 hNa (fun p hp => ?_) j3 fun s2 F3 => ?_)
  · rcases List.mem_cons.mp hp with rfl | hp
    · exact hCa
    · exact j1 p hp
  · have hC2 : s2.heap.get? C = some oC := (F3.ext (C, oC) (.head _)).1
    refine ⟨m, ⟨oC, es, ep, hC2, hCd, hCr⟩, fun h' hs' => ?_⟩
    have F4 : Fs G sc on B ((x, .lst ((xs.filter q).map f)) :: cx) env s2 N' := by
      refine { F3 with keep := fun a o h e => F3.keep a o (fun p hp => ?_) e, ext := fun p hp => F3.ext p (.tail _ hp), lists := ?_ }
      · rcases List.mem_cons.mp hp with rfl | hp
        · intro e'
          have e1 : C = a := e'
          have e2 : B.s₀.heap.get? a = some o := e
          rw [← e1, hC0] at e2; cases e2
        · exact h p hp
      · obtain ⟨al, g1, g2⟩ := F3.lists
        exact ⟨al, fun y ds hy => let ⟨ws, i1, i2, i3, i4, i5, i6⟩ := g1 y ds hy; ⟨ws, i1, i2, i3, i4, i5, fun p hp => i6 p (.tail _ hp)⟩, g2⟩
    refine k _ N' (F4.upd (tk := s2.toks) hs' hC0 hNC hCX (fun vs ⟨o, h4, _, n, h5⟩ => ?_) ?_ (fun y hy e => absurd e (hCc y hy)) fun y t v hy hv => ?_)
    · rw [hC2] at h4; cases h4; rw [hCd] at h5; cases h5
    · obtain ⟨m', hm'⟩ := F4.loc; exact ⟨m', hm'.sameBut hs' (Ne.symm hCL)⟩
    · obtain ⟨n1, y1 | y1⟩ := hv
      · obtain ⟨i1, m', i2, i3⟩ := y1; exact ⟨n1, .inl ⟨i1, m', i2.sameBut hs' (Ne.symm hCL), i3⟩⟩
      · obtain ⟨i1, c, i2, i3⟩ := y1
        refine ⟨n1, .inr ⟨i1, c, i2, i3.sameBut hs' fun e => ?_⟩⟩
        obtain ⟨o, i4, i5⟩ := i3
        rw [e, hC2] at i4; cases i4; rw [hCd] at i5; cases i5
end
end Mine
end
section
set_option tactic.hygienic false
open PySem PySem.W PyProof.Rows
namespace Mine
theorem lookup_nodup {β : Type} : ∀ {l : List (Str × β)}, (l.map (·.1)).Nodup → ∀ {x : Str} {v : β}, (x, v) ∈ l → l.lookup x = some v
  | [], _, _, _, h => nomatch h
  | (y, u) :: l, hd, x, v, h => by
    rw [List.map_cons, List.nodup_cons] at hd
    rw [List.lookup_cons]
    rcases List.mem_cons.mp h with e | h
    · cases e; simp
    · have hne : x ≠ y := fun e => hd.1 (List.mem_map.mpr ⟨(x, v), h, e⟩)
      rw [show (x == y) = false by simpa using hne]
      exact lookup_nodup hd.2 h
section
variable {G : Gs} {n : Nat} {A : Around} {sc : Scope} {on : List Str} {B : Bse} {cx : Cx} {env : Env} {s : Shared} {N : Lg} {W W' W1 : Wd}
noncomputable def lamOk (sc : Scope) (ps : List Str) : Bool := sc.names.all (fun p => p.2 != .cell) && ps.all (fun x => okName x && sc.names.lookup x == some .local) && decide ps.Nodup && sc.kind == .function && !sc.isCoroutine && !sc.isGenerator
theorem FnXC.lam {f : Addr} {fd : FuncData} {e : Expr} {ps : List Str} {args : List D} {cxc : Cx} {d : D} (hf : ∀ N X, W.P N X → FnAt N f fd) (hbody : fd.body = .expr e) (hbind : ∀ vs : List Value, vs.length = args.length → bindArgs fd ⟨vs, []⟩ = Pure.pure (ps.zip vs)) (hg : fd.globals = mainGlobals) (hb : fd.builtins = builtinsNs) (hps : lamOk fd.scope ps = true)
    (hclo : ∀ N X, W.P N X → ∀ q ∈ cxc, okName q.1 = true ∧ fd.scope.names.lookup q.1 = some .free ∧ ∃ c o v d, fd.closure.lookup q.1 = some c ∧ N c o ∧ o.data = .cell (some v) ∧ q.2 = .imm d ∧ Rp N v d)
    (he : EvX G n fd.scope (cxOf ps args ++ cxc) W e W' d) : FnXC G (n + 1) (.ref f) args W W' d := by
  refine ⟨fun A s N vs X rm ok hx hw hr Q E k => ?_⟩
  obtain ⟨⟨o, ho, hd⟩, c, oc, vc, t, hc1, hc2, hc3, hc4⟩ := hf _ _ hw
  simp only [lamOk, Bool.and_eq_true, List.all_eq_true, beq_iff_eq, bne_iff_ne, decide_eq_true_eq, Bool.not_eq_true'] at hps
  obtain ⟨⟨⟨⟨⟨hp0, hp1⟩, hp2⟩, hk⟩, hco⟩, hgen⟩ := hps
  have hzip : ∀ x ∈ ps.zip vs, x.1 ∈ ps := fun x hx => (List.of_mem_zip (a := x.1) (b := x.2) hx).1
  have hnd : ((ps.zip vs).map (·.1)).Nodup := zip_nodup hp2 vs
  refine kla_callFunE rm.lim (ok.hold _ _ ho) hd hco hgen hbody ⟨c, oc, vc, t, hc1, ok.hold _ _ hc2, hc3, hc4⟩ ?_
  rw [hbind vs hr.length]
  refine wpAny_pure (wpAny_newFunctionEnv hp0 (fun x hx => (hp1 x.1 (hzip x hx)).2) (fun h1 hns hsb => ?_) hk)
  have hk1 : ∀ b o, s.heap.get? b = some o → h1.get? b = some o := fun b o e => hsb.extBut b o (Nat.ne_of_lt (Heap.lt_size e)) (Heap.get?_push_of_some _ e)
  have g1 : Gr s N { s with heap := h1, toks := s.toks + (ps.zip vs).length } N := Gr.keeps ok hk1 rfl rfl
  have ok1 := g1.ok ok
  refine ⟨ok1.lim, kla_codeExpr ?_⟩
  generalize henv : newEnv fd.scope s.heap.objs.size fd.globals fd.closure (fd.qualname ++ ".<locals>.") (some f) fd.code none fd.builtins = env
  have hsc : env.scope = fd.scope := by rw [← henv]; rfl
  have hloc : env.locals = s.heap.objs.size := by rw [← henv]; rfl
  have hcl : env.cells = fd.closure := by rw [← henv]; rfl
  have hkind : ∀ y, env.kindOf y = fd.scope.names.lookup y := fun y => by show env.scope.names.lookup y = _; rw [hsc]
  have z : Vw G fd.scope (cxOf ps args ++ cxc) env { s with heap := h1, toks := s.toks + (ps.zip vs).length } N := by
    refine { ok1 with envOk := ⟨hsc, hk, by rw [← henv]; exact hg, by rw [← henv]; exact hb⟩, vars := fun x t hxt => ?_ }
    rcases List.mem_append.mp hxt with hxt | hxt
    · obtain ⟨v, d, rfl, hm, hv⟩ := cxOf_mem hr hxt
      refine ⟨v, ⟨(hp1 x (hzip _ hm)).1, .inl ⟨(hkind x).trans (hp1 x (hzip _ hm)).2, _, by rw [hloc]; exact hns, ?_⟩⟩, hv⟩
      exact lookup_nodup (by rw [List.map_reverse]; exact (List.reverse_perm _).nodup_iff.mpr hnd) (List.mem_reverse.mpr hm)
    · obtain ⟨h1, h2, c, o, v, d, h3, h4, h5, h6, h7⟩ := hclo _ _ hw _ hxt
      have h6' : t = .imm d := h6
      subst h6'
      exact ⟨v, ⟨h1, .inr ⟨.inr ((hkind x).trans h2), c, by rw [hcl]; exact h3, ⟨o, ok1.hold _ _ h4, h5⟩⟩⟩, h7⟩
  exact he.go _ env _ N X rm.deeper z (hx.gr g1) hw _ _ fun v s2 N2 X2 g2 hw2 r2 => k v s2 N2 X2 ((g1.x hx).trans g2 hx) hw2 r2
theorem EvX.ownCall {pl : Env → Sem Bool} {e a : Expr} {name : Str} {apos pos : Pos} {C f : Addr} {ks : List Str} {ds : List D} {fd : FuncData} {d1 d : D} (he : EvR G n sc cx W e (.obj C ks ds)) (ok : attrOk G.K C name = true) (hk : findIn G.K (.ref C) "__getattr__" = some none) (hl : (ks.zip ds).lookup name = some (.ref f)) (hf : ∀ N X, W.P N X → FnAt N f fd)
    (hi : Ev G n sc cx a d1) (hc : FnX G n (.ref f) [d1] W W' d)
    (hb : ∀ env, eval (.Call (.Attribute e name apos) [a] [] pos) env = (do
      let ov ← eval e env
      standAt apos.atName
      let (f, first) ← holding [ov] (getMethod ov name (pl env))
      callWith pos f first (backTo pos (starEach [a] env)) (backToKw pos (keywordEach [] env))) := by intro _; rfl)
    (hs : ∀ env, starEach [a] env = (false, eval a env) :: starEach [] env := by intro _; rfl) : EvX G n sc cx W (.Call (.Attribute e name apos) [a] [] pos) W' d := by
  refine ⟨fun A env s N X rm z hx hw Q E k => ?_⟩
  with_reducible refine methodCall_KW (he.go A env s N X rm z hx hw _ _ fun v s1 N1 g1 r1 => ?_) (hb env)
  have ok1 := (z.gr g1).toOk
  have hw1 := W.mono g1.le hw
  cases r1 with | obj h1 h2 h3 h4 h5 =>
  obtain ⟨v, h6, h7⟩ := zip_look h5 hl
  have I := inst_at (ok1.hold _ _ h1) h2 (ok1.hold _ _ h3)
  obtain ⟨i1, i2⟩ := find_own ok h4 h6
  have i3 : findIn G.K (.ref C) name = some none := by
    simp only [attrOk, Bool.and_eq_true, beq_iff_eq] at ok; exact ok.1.2
  refine method_usual ok1.frag I i1 hk i3 rfl ?_
  refine get_own ok1.frag (ok1.hold _ _ h1) h2 (ok1.hold _ _ h3) h4 ok h6 h7.handed ?_
  cases h7
  obtain ⟨⟨of, hof, hdf⟩, _⟩ := hf _ _ hw1
  have g1' : Gr s N { s1 with toks := s1.toks + 1 } N1 := g1.trans (Gr.toks ok1 _)
  refine callWith_def (o := of) hdf ((EvL.cons hi .nil hs).go A env { s1 with toks := s1.toks + 1 } N1 pos rm (z.gr g1') _ _ fun us s2 N2 g2 r2 => ⟨(g2.keep _ _ (ok1.hold _ _ hof)), ?_⟩) (hs env)
  have g12 := g1'.trans g2
  exact hc.go A s2 N2 us X rm (z.gr g12).toOk (hx.gr g12) (W.mono g12.le hw) r2 Q E fun v s3 N3 X3 g3 hw3 r3 => k v s3 N3 X3 ((g12.x hx).trans g3 hx) hw3 r3
theorem EvIX.range1 {x : Str} {e : Expr} {p pos p2 : Pos} {y : Str} {b : Int} {k : Nat} (hn : Nm G sc x (.type "range")) (he : EvR G n sc cx W e (.int b)) (hk : b = k ∨ (b ≤ 0 ∧ k = 0)) (hs : b < 2 ^ 62) (hs' : -(2 ^ 62) ≤ b) (hst : ∀ env, starEach [e] env = (false, eval e env) :: starEach [] env := by intro _; rfl) :
    EvIX G n sc cx W (.Call (.Name x p) [e] [] pos) (.Name y p2) (rng 0 k) := by
  refine ⟨fun A env s N X rm z hx hw Q E q => ?_⟩
  with_reducible refine wpAny_Call_NameR (hn.eval z (PyProof.Rows.callWith_type1 ?_ (hst env) (by with_unfolding_all rfl)))
  with_reducible refine args_cons (he.go A env s N X rm z hx hw _ _ fun v s1 N1 g1 r1 => args_nil ?_) (hst env)
  cases r1 with
    | int _ t =>
      have ok1 := (z.gr g1).toOk
      refine call_range_1 ?_
      have gp : Gr s1 N1 { s1 with heap := s1.heap.push { cls := .type "range", data := .fields #[.int 0 s1.toks, .int b t, .int 1 (s1.toks + 1)] }, toks := s1.toks + 1 + 1 } N1 := Gr.keeps ok1 (fun a o e => Heap.get?_push_of_some _ e) rfl rfl
      refine rangeIt rm.handled (gp.ok ok1) (IsRange.new _ _ _ _ _ _ _) (small_one (by lia) (by lia) hs' hs) (k := k) (y := y) (p := p2) (by lia) fun it wr s' St g hf hN IT hst0 => ?_
      exact q it wr s' N1 St ((g1.trans gp).trans g) (fun b hb => none_of_keep (g1.trans gp).keep (hf b hb)) hN IT hst0
end
end Mine
end
section
set_option tactic.hygienic false
open PySem PySem.W PyProof.Rows
set_option maxRecDepth 100000
namespace Mine
theorem slot_ci_next : Slot "callable_iterator" "__next__" "callable_iterator.__next__" :=
  .of (owner := "callable_iterator") (n := "__next__") (by rw [typeLookup_type, builtinLookup_eq_fast]; kernel_rfl) (by decide +kernel) (by decide +kernel) (by decide +kernel)
    (by first | exact .inl (by decide +kernel) | exact .inr (by decide +kernel)) (by rw [isSubtype_type]; kernel_rfl)
theorem entry_ci_next : entryFor table "callable_iterator.__next__" = some Builtin.«callable_iterator.__next__» := entryFor_of_tree (by kernel_rfl)
theorem slot_ci_iter : Slot "callable_iterator" "__iter__" "callable_iterator.__iter__" :=
  .of (owner := "callable_iterator") (n := "__iter__") (by rw [typeLookup_type, builtinLookup_eq_fast]; kernel_rfl) (by decide +kernel) (by decide +kernel) (by decide +kernel)
    (by first | exact .inl (by decide +kernel) | exact .inr (by decide +kernel)) (by rw [isSubtype_type]; kernel_rfl)
theorem owner_ci : Manifest.owners.lookup (String.ofList ['r', 'o', 't', 'a', 'r', 'e', 't', 'i', '_', 'e', 'l', 'b', 'a', 'l', 'l', 'a', 'c'].reverse) = some Manifest.sig_callable_iterator := by kernel_rfl
theorem args_ci_next (a : Value) : argsOk "callable_iterator.__next__" ⟨[a], []⟩ := by
  unfold argsOk; rw [signature?_of (id := "callable_iterator.__next__") (n := ['_', '_', 't', 'x', 'e', 'n', '_', '_']) (o := ['r', 'o', 't', 'a', 'r', 'e', 't', 'i', '_', 'e', 'l', 'b', 'a', 'l', 'l', 'a', 'c']) (by kernel_rfl) owner_ci]; kernel_rfl
theorem args_ci_iter (a : Value) : argsOk "callable_iterator.__iter__" ⟨[a], []⟩ := by
  unfold argsOk; rw [signature?_of (id := "callable_iterator.__iter__") (n := ['_', '_', 'r', 'e', 't', 'i', '_', '_']) (o := ['r', 'o', 't', 'a', 'r', 'e', 't', 'i', '_', 'e', 'l', 'b', 'a', 'l', 'l', 'a', 'c']) (by kernel_rfl) owner_ci]; kernel_rfl
theorem entry_ci_iter : entryFor table "callable_iterator.__iter__" = some Builtin.«dict_keyiterator.__iter__» :=
  entryFor_alias (id' := "dict_keyiterator.__iter__") (by kernel_rfl) (by first | rfl | decide +kernel | (unfold String.splitOn; simp +decide [String.splitOnAux])) (by decide +kernel) (by kernel_rfl)
theorem kind_iter : builtinKind "iter" = none := by decide +kernel
theorem plain_iter : plainId "iter" = true := by decide +kernel
theorem entry_iter : entryFor table "iter" = some Builtin.«iter» := entryFor_of_tree (by kernel_rfl)
theorem args_iter_2 (a b : Value) : argsOk "iter" ⟨[a, b], []⟩ := by unfold argsOk; kernel_rfl

noncomputable def itObj (q : Addr) (t : Tok) (ended : Bool) : Obj := { cls := .type "callable_iterator", data := .fields (if ended then #[.none, .none, .bool true] else #[.ref q, .str "" t, .bool false]) }
theorem itObj_type {s : Shared} {it q : Addr} {t : Tok} {b : Bool} (h : s.heap.get? it = some (itObj q t b)) : s.TypeIs (.ref it) "callable_iterator" := ⟨_, h, rfl⟩
theorem callBorrowed_eq (f : Value) (pos : List Value) : callBorrowed f pos = (call f pos).keep [borrowed] := by
  unfold callBorrowed call runValue run
  show Sem.call _ _ _ _ _ = Sem.call _ _ _ _ _
  congr 1
  funext r
  cases r with
  | ok f => cases f <;> rfl
  | error e => rfl
section
variable {prog : Program} {w : World} {A : Around} {s : Shared} {E : Value → Shared → Prop}
theorem wpAny_callBorrowed {f : Value} {pos : List Value} {Q : Value → Shared → Prop} (h : wpAny (model prog w) A (call f pos) Q E s) : wpAny (model prog w) A (callBorrowed f pos) Q E s := by
  rw [callBorrowed_eq]; exact PySem.Calls.wpAny_keep h
theorem pyIter_ci {it q : Addr} {t : Tok} {b : Bool} {Q : Value → Shared → Prop} (h : s.heap.get? it = some (itObj q t b)) (k : Q (.ref it) s) : wpAny (model prog w) A (pyIter (.ref it)) Q E s := by
  refine wpAny_pyIter_slot (itObj_type h) slot_ci_iter (wpAny_call_entry slot_ci_iter (itObj_type h) entry_ci_iter ?_ (args_ci_iter _))
  show wpAny _ _ (ret (.ref it)) _ _ s
  exact wpAny_pure ⟨_, rfl, "callable_iterator", _, itObj_type h, slot_ci_next.lookup, k⟩
theorem stop_ci {α : Type} (hh : A.handled = none) {Q : α → Shared → Prop} {Q' : Option Value → Shared → Prop} {E' : Value → Shared → Prop} (k : ∀ h', (∀ b o, s.heap.get? b = some o → h'.get? b = some o) → Q' none { s with heap := h' }) :
    wpAny (model prog w) A.in1 (Builtin.SmallTypes.stopIteration : Sem α) Q (fun e s' => wpAny (model prog w) A (do if ← isInstance e (.type "StopIteration") then pure none else throw e) Q' E' s') s := by
  unfold Builtin.SmallTypes.stopIteration
  refine wpAny_bind ?_
  simp only [newExc, newTuple]
  refine wpAny_bind (wpAny_newObj_type ?_ (by size_fits))
  refine wpAny_bind (m := firstArgMember _ _) (wpAny_of_eq (a := Value.none) (by first | rfl | (simp only [firstArgMember]; rfl)) ?_)
  refine wpAny_newObj_type ?_ (by size_fits)
  simp only [raiseNew]
  refine wpAny_bind (wpAny_handled ?_)
  rw [show A.in1.handled = none from hh]
  refine wpAny_bind (wpAny_pure (wpAny_throw ?_))
  refine wpAny_bind (wpAny_isInstance (T := "StopIteration") (b := true) ⟨_, Heap.get?_push_size _ rfl, rfl⟩ isSubtype_stop ?_)
  exact wpAny_pure (k _ fun b o e => Heap.get?_push_of_some _ (Heap.get?_push_of_some _ e))
theorem next_ended {it q : Addr} {t : Tok} (hh : A.handled = none) {Q : Option Value → Shared → Prop} (h : s.heap.get? it = some (itObj q t true)) (k : ∀ h', (∀ b o, s.heap.get? b = some o → h'.get? b = some o) → Q none { s with heap := h' }) : wpAny (model prog w) A (pyNext (.ref it)) Q E s := by
  unfold pyNext
  refine wpAny_bind (wpAny_attempt (wpAny_callSpecial?_slot (name := Str.ofString "__next__") (itObj_type h) slot_ci_next (wpAny_call_entry slot_ci_next (itObj_type h) entry_ci_next ?_ (args_ci_next _))))
  show wpAny _ _ (field (.ref it) 2 >>= _) _ _ s
  refine wpAny_bind (wpAny_field h rfl (x := .bool true) rfl ?_)
  show wpAny _ _ (if _ then _ else _) _ _ s
  rw [if_pos (by decide)]
  refine wpAny_bind (wpAny_rule ?_)
  refine wpAny_bind ?_
  exact stop_ci hh k
end
section
variable {G : Gs} {n : Nat} {A : Around} {s : Shared} {N : Lg} {W W' : Wd} {X : Xs} {E : Value → Shared → Prop}
theorem Rm.in1 (h : Rm A (n + 1)) : Rm A.in1 n := ⟨by have := h.depth; show A.depth + n < 1000; lia, by have := h.units; show A.units + 1 + 20 * n + 400 < 9900; lia, h.handled⟩
theorem borrows_meth {q f x : Addr} {fd : FuncData} {o : Obj} {M : Model} {Q : Bool → Shared → Prop} (hq : s.heap.get? q = some (methodObj (.ref f) (.ref x))) (hf : s.heap.get? f = some o) (hd : o.data = .func fd) (k : Q true s) : wpAny M A (borrowsExactly (.ref q)) Q E s := by
  unfold borrowsExactly
  refine wpAny_bind (wpAny_load hq ?_)
  show wpAny _ _ (if _ then _ else _) _ _ _
  rw [if_pos (show ((Value.type "method") == Value.type "method") = true by decide)]
  show wpAny _ _ ((load f >>= _)) _ _ _
  refine wpAny_bind (wpAny_load hf ?_)
  rw [hd]
  exact wpAny_pure k
theorem next_run {it q f x : Addr} {t : Tok} {fd : FuncData} {c : Str} {Q : Option Value → Shared → Prop} (rm : Rm A (n + 1)) (ok : Ok G s N) (hx : Hx X s N) (hw : W.P N X) (hit : s.heap.get? it = some (itObj q t false)) (hiN : ∀ o, ¬ N it o) (hiX : ∀ p ∈ X, p.1 ≠ it) (hq : N q (methodObj (.ref f) (.ref x))) (hf : FnAt N f fd)
    (hc : FnXC G n (.ref f) [.ref x] W W' (.str c))
    (k1 : c ≠ "" → ∀ v s' N' X', GrX X X' s N s' N' → s'.heap.get? it = some (itObj q t false) → W'.P N' X' → Rp N' v (.str c) → Q (some v) s')
    (k2 : c = "" → ∀ s1 N' X' h' , GrX X X' s N s1 N' → W'.P N' X' → h'.get? it = some (itObj q t true) → (∀ b o, b ≠ it → s1.heap.get? b = some o → h'.get? b = some o) → Q none { s1 with heap := h' }) : wpAny G.M A (pyNext (.ref it)) Q E s := by
  obtain ⟨⟨of, hof, hfd⟩, _⟩ := hf
  have hqs := ok.hold _ _ hq
  unfold pyNext
  refine wpAny_bind (wpAny_attempt (wpAny_callSpecial?_slot (name := Str.ofString "__next__") (itObj_type hit) slot_ci_next (wpAny_call_entry slot_ci_next (itObj_type hit) entry_ci_next ?_ (args_ci_next _))))
  show wpAny _ _ (field (.ref it) 2 >>= _) _ _ s
  refine wpAny_bind (wpAny_field hit rfl (x := .bool false) rfl ?_)
  show wpAny _ _ (if _ then _ else _) _ _ s
  rw [if_neg (by decide)]
  show wpAny _ _ (field (.ref it) 0 >>= _) _ _ s
  refine wpAny_bind (wpAny_field hit rfl (x := .ref q) rfl ?_)
  show wpAny _ _ ((callOutOfASlot (.ref q)).attempt >>= _) _ _ s
  refine wpAny_bind (wpAny_attempt ?_)
  unfold callOutOfASlot
  refine wpAny_bind (borrows_meth hqs (ok.hold _ _ hof) hfd ?_)
  simp only [if_true]
  refine wpAny_callBorrowed (wpAny_call (method_call hqs ?_))
  refine hc.go _ s N [.ref x] X rm.in1 ok hx hw (.one (.ref x)) _ _ fun v s1 N1 X1 g1 hw1 r1 => ?_
  have hit1 : s1.heap.get? it = some (itObj q t false) := g1.keep _ _ hiX hit
  show wpAny _ _ (field (.ref it) 2 >>= _) _ _ s1
  refine wpAny_bind (wpAny_field hit1 rfl (x := .bool false) rfl ?_)
  show wpAny _ _ (if _ then _ else _) _ _ s1
  rw [if_neg (by decide)]
  show wpAny _ _ (field (.ref it) 1 >>= _) _ _ s1
  refine wpAny_bind (wpAny_field hit1 rfl (x := .str "" t) rfl ?_)
  refine r1.eStr ?_; intro u
  refine wpAny_bind (wpAny_holding (wpAny_eqBool_str ?_))
  by_cases he : c = ""
  · subst he
    rw [show (decide (("" : Str) = "")) = true from by decide]
    show wpAny _ _ (if _ then _ else _) _ _ s1
    rw [if_neg (by decide)]
    refine wpAny_bind (wpAny_rule ?_)
    refine wpAny_bind ?_
    show wpAny _ _ (field (.ref it) 0 >>= _) _ _ s1
    refine wpAny_bind (wpAny_field hit1 rfl (x := .ref q) rfl ?_)
    refine wpAny_bind ?_
    unfold slotLetsGo
    have hqs1 := g1.hold _ _ (g1.le _ _ hq)
    have hfs1 := g1.hold _ _ (g1.le _ _ hof)
    show wpAny _ _ (borrowsExactly (.ref q) >>= _) _ _ s1
    refine wpAny_bind (borrows_meth hqs1 hfs1 hfd ?_)
    simp only [if_true]
    refine wpAny_pure ?_
    refine wpAny_bind (wpAny_setField_rec hit1 (by simp) fun h2 hi2 hs2 => ?_)
    refine wpAny_bind (wpAny_setField_rec hi2 (by simp) fun h3 hi3 hs3 => ?_)
    refine wpAny_setField_rec hi3 (by simp) fun h4 hi4 hs4 => ?_
    refine stop_ci rm.handled fun h5 k5 => ?_
    refine k2 rfl s1 N1 X1 h5 g1 hw1 (k5 _ _ hi4) fun b o hb e => k5 _ _ ?_
    exact ((hs4.2 b hb).trans ((hs3.2 b hb).trans (hs2.2 b hb))).trans e
  · rw [show decide (("" : Str) = c) = false from decide_eq_false (fun e => he e.symm)]
    show wpAny _ _ (if _ then _ else _) _ _ s1
    rw [if_pos (by decide)]
    refine wpAny_pure ⟨_, rfl, wpAny_pure ?_⟩
    exact k1 he _ s1 N1 X1 g1 hit1 hw1 (.str _ _)
end
end Mine
end
section
set_option tactic.hygienic false
open PySem PySem.W PyProof.Rows
namespace Mine
noncomputable def boundOk (K : Frag) (C : Addr) (name : Str) (f : Addr) : Bool := plainGet K C name && hasDictIn K C && findIn K (.ref C) name == some (some (.ref f)) && isFn K (.ref f) && specialIn K (.ref f) "__get__" == some (some (.builtin "function.__get__")) && takesIn K (.ref f) == some false && !copiedNames.contains name
theorem get_bound {prog : Program} {w : World} {A : Around} {E : Value → Shared → Prop} {s : Shared} {K : Frag} {x C f dx : Addr} {o od : Obj} {name : Str} {m : Str → Option Value} {n : Nat} {expr : Bool} {Q : Value → Shared → Prop} (X : K.In s.heap) (ho : s.heap.get? x = some o) (hc : o.cls = .ref C ∧ o.dict = some dx ∧ o.data = .plain) (hd : s.heap.get? dx = some od) (hk : DK od m n) (hm : m name = none) (ok : boundOk K C name f = true)
    (h : Q (.ref s.heap.objs.size) { s with heap := s.heap.push (methodObj (.ref f) (.ref x)), toks := s.toks + 1 }) : wpAny (model prog w) A (getAttr (.ref x) name expr) Q E s := by
  simp only [boundOk, Bool.and_eq_true, beq_iff_eq, Bool.not_eq_true'] at ok
  obtain ⟨⟨⟨⟨⟨⟨h1, h2⟩, h3⟩, h4⟩, h5⟩, h6⟩, h7⟩ := ok
  exact get_bind X (inst_at ho hc hd) (plainGet_of h1).1 (findObj_fn h2 h3 h5 h6 h7 (by rw [hk.look, hm])) (plainGet_of h1).2
    (wpAny_call (fn_get (s := { s with toks := s.toks + 1 }) X (beq_iff_eq.mp h4) (handed_on rfl h)))
theorem type_method_call : typeLookup (.type "method") "__call__" = pure (some (.builtin "method.__call__")) := by rw [typeLookup_type, builtinLookup_eq_fast]; kernel_rfl
theorem call_iter {prog : Program} {w : World} {A : Around} {E : Value → Shared → Prop} {s : Shared} {q : Addr} {f x : Value} {t : Tok} {Q : Value → Shared → Prop} (hq : s.heap.get? q = some (methodObj f x)) (h : Q (.ref s.heap.objs.size) { s with heap := s.heap.push (itObj q t false) }) : wpAny (model prog w) A (call (.builtin "iter") [.ref q, .str "" t]) Q E s := by
  refine PySem.Calls.call_function_entry kind_iter plain_iter entry_iter (args_iter_2 _ _) ?_
  show wpAny _ _ (specialOf (.ref q) "__call__" >>= _) _ _ s
  refine wpAny_bind (wpAny_specialOf ⟨_, hq, rfl⟩ type_method_call ?_)
  show wpAny _ _ (if _ then _ else _) _ _ s
  rw [if_neg (by decide)]
  refine wpAny_bind (wpAny_rule ?_)
  refine wpAny_bind ?_
  exact wpAny_newObj_type (wpAny_pure ⟨_, rfl, h⟩) (by size_fits)
section
variable {G : Gs} {n : Nat} {A : Around} {sc : Scope} {on : List Str} {cx cx0 : Cx} {env : Env} {s : Shared} {N : Lg} {X Y : Xs} {W W' : Wd} {s₀ : Shared} {N₁ : Lg}
variable {Q : Flow → Shared → Prop} {E : Value → Shared → Prop} {rest : List Stmt}
theorem asgIter {x name : Str} {o : Expr} {p p' p1 p2 p3 p4 : Pos} {kk : Nat} {xx C f : Addr} {no : List Str} (w : WX W N₁ X Y) (F : Fs G sc on ⟨X ++ Y, s₀, N₁⟩ cx env s N) (rm : Rm A n) (hsub : ∀ q ∈ cx0, q ∈ cx) (hn : Nm G sc "iter" (.builtin "iter")) (he : Ev G n sc cx0 o (.ref xx)) (hi : HasI W xx C no) (hno : name ∈ no) (hok : boundOk G.K C name f = true) (hx : canSt sc on cx x = true)
    (k : ∀ s' N' it q t, N' q (methodObj (.ref f) (.ref xx)) → (∀ p ∈ Y, p.1 ≠ it) → WX W N' X ((it, itObj q t false) :: Y) → Bse.Le ⟨X ++ Y, s₀, N₁⟩ ⟨X ++ (it, itObj q t false) :: Y, s₀, N'⟩ → Fs G sc on ⟨X ++ (it, itObj q t false) :: Y, s₀, N'⟩ ((x, .imm (.ref it)) :: cx) env s' N' → Wp G A (execs rest env) Q E s')
    (hb : ∀ env, eval (.Attribute o name p1) env = (do
      let r ← eval o env
      standAt p1.atName
      let v ← holding [r] (getAttr r name true)
      letTemporaryGo o r v
      Pure.pure v) := by intro _; rfl)
    (hs1 : ∀ env, starEach [.Attribute o name p1, .Constant (.str "") kk p2] env = (false, eval (.Attribute o name p1) env) :: starEach [.Constant (.str "") kk p2] env := by intro _; rfl)
    (hs2 : ∀ env, starEach [.Constant (.str "") kk p2] env = (false, eval (.Constant (.str "") kk p2) env) :: starEach [] env := by intro _; rfl)
    (hp : ∀ env pos, (backTo pos (starEach [.Constant (.str "") kk p2] env)).any (·.1) = false := by intro _ _; rfl)
    (hw : ∀ line env, EnvOk sc env → swapsWith (.Call (.Name "iter" p3) [.Attribute o name p1, .Constant (.str "") kk p2] [] p4) (some (Expr.Name x p)) line env = Pure.pure false := by intro _ _ _; rfl) :
    Wp G A (execs (.Assign [.Name x p] (.Call (.Name "iter" p3) [.Attribute o name p1, .Constant (.str "") kk p2] [] p4) p' :: rest) env) Q E s := by
  obtain ⟨i1, i2, i3⟩ := canSt.all hx
  refine wseq ⟨?_⟩
  have hx0 := w.hx F
  have hw0 := w.now F
  have z := (F.sub hsub).toVw
  with_reducible refine wpAny_Assign_Name ?_ (hw _ _ F.envOk)
  with_reducible refine wpAny_Call_NameR (hn.eval F.toVw (PyProof.Rows.callWith_builtin1 ?_ (hs1 env) (hp env p4)))
  with_reducible refine args_cons ?_ (hs1 env)
  with_reducible refine Attribute_any_ ((he.go A env s N rm z).go _ _ fun v s1 N1 g1 r1 => ?_) (hb env)
  have ok1 := (z.gr g1).toOk
  have hx1 := hx0.gr g1
  obtain ⟨dx, ox, od, m, nn, h1, h2, h3, h4, h5⟩ := hi.go _ _ (W.mono g1.le hw0)
  refine r1.eRef ?_
  refine get_bound ok1.frag (ok1.hold _ _ h1) h2 (hx1.at_ _ h3) h4 (h5 _ hno) hok ?_
  generalize hq : s1.heap.objs.size = q
  have hqn : s1.heap.get? q = none := Heap.get?_none_of_le (Nat.le_of_eq hq)
  have gq : Gr s1 N1 { s1 with heap := s1.heap.push (methodObj (.ref f) (.ref xx)), toks := s1.toks + 1 } (N1.add q (methodObj (.ref f) (.ref xx))) :=
    Gr.freeze (s1 := { s1 with heap := s1.heap.push (methodObj (.ref f) (.ref xx)), toks := s1.toks + 1 }) (Gr.keeps ok1 (fun a o e => Heap.get?_push_of_some _ e) rfl rfl) hqn (by rw [← hq]; exact Heap.get?_push_size _ rfl)
  generalize hs2' : ({ s1 with heap := s1.heap.push (methodObj (.ref f) (.ref xx)), toks := s1.toks + 1 } : Shared) = s2 at gq ⊢
  have g2 := g1.trans gq
  have z2 := z.gr g2
  with_reducible refine args_cons ((Ev.str.go A env s2 _ rm z2).go _ _ fun v2 s3 N3 g3 r3 => args_nil ?_) (hs2 env)
  cases r3 with | str _ t =>
  have g := g2.trans g3
  have hqN : N3 q (methodObj (.ref f) (.ref xx)) := g3.le _ _ (Lg.add_self _ _ _)
  have F3 := F.gr g
  refine call_iter (F3.hold _ _ hqN) ?_
  generalize hit : s3.heap.objs.size = it
  have hin : s3.heap.get? it = none := Heap.get?_none_of_le (Nat.le_of_eq hit)
  have gp : Gr s3 N3 { s3 with heap := s3.heap.push (itObj q t false) } N3 := Gr.keeps F3.toOk (fun a o e => Heap.get?_push_of_some _ e) rfl rfl
  have hiat : (s3.heap.push (itObj q t false)).get? it = some (itObj q t false) := by rw [← hit]; exact Heap.get?_push_size _ rfl
  have F4 := F3.gr gp
  have odd : ∀ b ∈ [it], Odd (s3.heap.push (itObj q t false)) b := fun b hb => by
    rcases List.mem_singleton.mp hb with rfl
    exact odd_rec hiat (by decide)
  have hXn : ∀ p ∈ X ++ Y, p.1 ≠ it := fun p hp e => by have := (F3.ext p hp).1; rw [e, hin] at this; cases this
  have h0 : ∀ b ∈ [it], s₀.heap.get? b = none := fun b hb => by
    rcases List.mem_singleton.mp hb with rfl
    cases e : s₀.heap.get? b with
    | none => rfl
    | some o => rw [F3.keep b o hXn e] at hin; cases hin
  have hN : ∀ b ∈ [it], ∀ o, ¬ N3 b o := fun b hb o e => by
    rcases List.mem_singleton.mp hb with rfl
    have := F3.hold _ _ e; rw [hin] at this; cases this
  obtain ⟨F5, hB5⟩ := F4.ext_w odd h0 hN
  have hXW : XW (s3.heap.push (itObj q t false)) [it] = [(it, itObj q t false)] := by simp [XW, hiat]
  have F6 : Fs G sc on ⟨X ++ (it, itObj q t false) :: Y, s₀, N3⟩ cx env { s3 with heap := s3.heap.push (itObj q t false) } N3 := by
    have F5' : Fs G sc on ⟨XW (s3.heap.push (itObj q t false)) [it] ++ (X ++ Y), s₀, N3⟩ cx env { s3 with heap := s3.heap.push (itObj q t false) } N3 := F5
    rw [hXW] at F5'
    exact F5'.reX fun p => by simp only [List.mem_append, List.mem_cons, List.not_mem_nil, or_false]; constructor <;> (intro h; rcases h with h | h | h <;> simp [h])
  have hB6 : Bse.Le ⟨X ++ Y, s₀, N₁⟩ ⟨X ++ (it, itObj q t false) :: Y, s₀, N3⟩ := by
    refine ⟨rfl, fun p hp => ?_, hB5.le, hB5.new⟩
    rcases List.mem_append.mp hp with hp | hp
    · exact .inl ⟨p, List.mem_append_left _ hp, rfl⟩
    · rcases List.mem_cons.mp hp with rfl | hp
      · exact .inr (h0 it (.head _))
      · exact .inl ⟨p, List.mem_append_right _ hp, rfl⟩
  have w6 : WX W N3 X ((it, itObj q t false) :: Y) := ⟨W.mono F3.le w.p, w.nc, fun p hp q' hq' => by
    rcases List.mem_cons.mp hq' with rfl | hq'
    · exact hXn p (List.mem_append_left _ hp)
    · exact w.ap p hp q' hq'⟩
  exact F6.store i2 i1 i3 (.ref it) fun s' F' => k s' N3 it q t hqN (fun p hp => hXn p (List.mem_append_right _ hp)) w6 hB6 F'
end
end Mine
end
section
set_option tactic.hygienic false
open PySem PySem.W PyProof.Rows
namespace Mine
section
variable {G : Gs} {n : Nat} {A : Around} {sc : Scope} {on : List Str} {cx cx0 : Cx} {env : Env} {s : Shared} {N : Lg} {Y : Xs} {W W' : Wd} {s₀ : Shared}
variable {Q : Flow → Shared → Prop} {E : Value → Shared → Prop} {rest : List Stmt}
theorem Fs.endIt {X : Xs} {N₁ : Lg} {it q : Addr} {t : Tok} {h' : Heap} (F : Fs G sc on ⟨X ++ (it, itObj q t false) :: Y, s₀, N₁⟩ cx env s N) (hX : ∀ p ∈ X ++ Y, p.1 ≠ it) (hi : h'.get? it = some (itObj q t true)) (hk : ∀ b o, b ≠ it → s.heap.get? b = some o → h'.get? b = some o) :
    Fs G sc on ⟨X ++ (it, itObj q t true) :: Y, s₀, N₁⟩ cx env { s with heap := h' } N := by
  have hm : (it, itObj q t false) ∈ X ++ (it, itObj q t false) :: Y := List.mem_append_right _ (.head _)
  have hitN := (F.ext _ hm).2.1
  have nc : ∀ b v, (itObj q t b).data ≠ .cell v := fun b v => by simp [itObj]
  have g : GrX [(it, itObj q t false)] [(it, itObj q t true)] s N { s with heap := h' } N := by
    refine ⟨fun a o h e => hk a o (fun q' => h _ (.head _) q'.symm) e, fun _ _ e => e, fun _ _ e => .inl e, fun a o e => hk a o (fun q' => hitN o (q' ▸ e)) (F.hold a o e), rfl, rfl, ⟨fun p hp => ?_, fun p hp => ?_, fun p hp => ?_⟩, fun p hp => ?_, fun p hp => ?_⟩
    · rcases List.mem_singleton.mp hp with rfl; exact hi
    · rcases List.mem_singleton.mp hp with rfl; exact hitN
    · rcases List.mem_singleton.mp hp with rfl; exact nc _
    · rcases List.mem_singleton.mp hp with rfl; exact .inl ⟨_, .head _, rfl⟩
    · rcases List.mem_singleton.mp hp with rfl; exact ⟨_, .head _, rfl⟩
  refine F.grx (Z' := X ++ (it, itObj q t true) :: Y) g (fun p hp => ?_) (fun p hp => ?_) (fun p hp => ?_) (fun p hp => ?_) (fun p hp => ?_)
  · rcases List.mem_singleton.mp hp with rfl; exact hm
  · rcases List.mem_singleton.mp hp with rfl; exact nc _
  · rcases List.mem_append.mp hp with hp | hp
    · exact .inr ⟨List.mem_append_left _ hp, fun q' hq' => by rcases List.mem_singleton.mp hq' with rfl; exact fun e => hX p (List.mem_append_left _ hp) e.symm⟩
    · rcases List.mem_cons.mp hp with rfl | hp
      · exact .inl (.head _)
      · exact .inr ⟨List.mem_append_right _ (.tail _ hp), fun q' hq' => by rcases List.mem_singleton.mp hq' with rfl; exact fun e => hX p (List.mem_append_right _ hp) e.symm⟩
  · rcases List.mem_append.mp hp with hp | hp
    · exact ⟨p, List.mem_append_left _ hp, rfl⟩
    · rcases List.mem_cons.mp hp with rfl | hp
      · exact ⟨_, List.mem_append_right _ (.head _), rfl⟩
      · exact ⟨p, List.mem_append_right _ (.tail _ hp), rfl⟩
  · rcases List.mem_singleton.mp hp with rfl; exact List.mem_append_right _ (.head _)
inductive StIt {σ : Type} (G : Gs) (sc : Scope) (on : List Str) (env : Env) (s₀ : Shared) (X : Xs) (N₁ : Lg) (Y : Xs) (it q : Addr) (t : Tok) (P : σ → Prop) (b : σ → Bool) (Wf : σ → Wd) (cxs : σ → Cx) (meas : σ → Nat) (k : Nat) (s' : Shared) : Prop
  | mk (σ' : σ) (N' N₁' : Lg) (X' : Xs) (hP : P σ') (hm : meas σ' < k) (hw : WX (Wf σ') N₁' X' ((it, itObj q t (b σ')) :: Y)) (ha : AllX X X') (hl : Bse.Le ⟨X ++ (it, itObj q t false) :: Y, s₀, N₁⟩ ⟨X' ++ (it, itObj q t (b σ')) :: Y, s₀, N₁'⟩) (hF : Fs G sc on ⟨X' ++ (it, itObj q t (b σ')) :: Y, s₀, N₁'⟩ (cxs σ') env s' N') : StIt G sc on env s₀ X N₁ Y it q t P b Wf cxs meas k s'
inductive ItI {σ : Type} (G : Gs) (sc : Scope) (on : List Str) (env : Env) (s₀ : Shared) (X₀ : Xs) (B₀ : Bse) (Y : Xs) (it q : Addr) (t : Tok) (P : σ → Prop) (b : σ → Bool) (Wf : σ → Wd) (cxs : σ → Cx) (meas : σ → Nat) (c : Nat) (s' : Shared) : Prop
  | mk (σ' : σ) (N' N₁ : Lg) (X : Xs) (hc : c = meas σ') (hP : P σ') (hw : WX (Wf σ') N₁ X ((it, itObj q t (b σ')) :: Y)) (ha : AllX X₀ X) (hl : Bse.Le B₀ ⟨X ++ (it, itObj q t (b σ')) :: Y, s₀, N₁⟩) (hF : Fs G sc on ⟨X ++ (it, itObj q t (b σ')) :: Y, s₀, N₁⟩ (cxs σ') env s' N') : ItI G sc on env s₀ X₀ B₀ Y it q t P b Wf cxs meas c s'
noncomputable abbrev ItQ {σ : Type} (G : Gs) (sc : Scope) (on : List Str) (env : Env) (s₀ : Shared) (X : Xs) (N₁ : Lg) (Y : Xs) (it q : Addr) (t : Tok) (P : σ → Prop) (b : σ → Bool) (Wf : σ → Wd) (cxs : σ → Cx) (meas : σ → Nat) (k : Nat) (Q : Flow → Shared → Prop) (f : Flow) (s' : Shared) : Prop := match f with
        | .next | .cont => StIt G sc on env s₀ X N₁ Y it q t P b Wf cxs meas k s'
        | .brk => False
        | .ret v => Q (.ret v) s'
theorem forIt {σ : Type} {x fx : Str} {body : List Stmt} {p p1 p2 : Pos} {X₀ : Xs} {N₀ : Lg} {it q f xx : Addr} {t : Tok} {fd : FuncData} (P : σ → Prop) (b : σ → Bool) (Wf W1 : σ → Wd) (ch : σ → Str) (cxs : σ → Cx) (meas : σ → Nat) (σ₀ : σ)
    (w : WX (Wf σ₀) N₀ X₀ ((it, itObj q t (b σ₀)) :: Y)) (F : Fs G sc on ⟨X₀ ++ (it, itObj q t (b σ₀)) :: Y, s₀, N₀⟩ cx env s N) (rm : Rm A (n + 1)) (hname : (fx, Ent.imm (.ref it)) ∈ cx) (hsub : ∀ q ∈ cxs σ₀, q ∈ cx) (h0 : P σ₀)
    (hY : ∀ p ∈ Y, p.1 ≠ it) (hq : N₀ q (methodObj (.ref f) (.ref xx))) (hf : FnAt G.base f fd)
    (hc : ∀ σ, P σ → b σ = false → FnXC G n (.ref f) [.ref xx] (Wf σ) (W1 σ) (.str (ch σ)))
    (hx : ∀ σ, P σ → canSt sc on (cxs σ) x = true)
    (turn : ∀ σ s N E' N₁ X (Q' : Flow → Shared → Prop), (∀ f s', ItQ G sc on env s₀ X N₁ Y it q t P b Wf cxs meas (meas σ) Q f s' → Q' f s') → P σ → b σ = false → ch σ ≠ "" → WX (W1 σ) N₁ X ((it, itObj q t false) :: Y) → AllX X₀ X → Bse.Le ⟨X₀ ++ (it, itObj q t (b σ₀)) :: Y, s₀, N₀⟩ ⟨X ++ (it, itObj q t false) :: Y, s₀, N₁⟩ → Fs G sc on ⟨X ++ (it, itObj q t false) :: Y, s₀, N₁⟩ ((x, .imm (.str (ch σ))) :: cxs σ) env s N →
      Wp G A (execs body env) Q' E' s)
    (k : ∀ σ s' N' N₁ X W', P σ → ((b σ = true ∧ W' = Wf σ) ∨ (b σ = false ∧ ch σ = "" ∧ W' = W1 σ)) → WX W' N₁ X ((it, itObj q t true) :: Y) → AllX X₀ X → Bse.Le ⟨X₀ ++ (it, itObj q t (b σ₀)) :: Y, s₀, N₀⟩ ⟨X ++ (it, itObj q t true) :: Y, s₀, N₁⟩ → Fs G sc on ⟨X ++ (it, itObj q t true) :: Y, s₀, N₁⟩ (cxs σ) env s' N' → Wp G A (execs rest env) Q E s')
    (hs : ∀ env x, foldedSetIterable (.Name fx p2) env x = Pure.pure x := by intro _ _; rfl) :
    Wp G A (execs (.For (.Name x p1) (.Name fx p2) body [] p :: rest) env) Q E s := by
  refine wseq ⟨?_⟩
  have hmem : ∀ {X : Xs} {bb : Bool}, (it, itObj q t bb) ∈ X ++ (it, itObj q t bb) :: Y := List.mem_append_right _ (.head _)
  with_reducible refine wpAny_For (((Ev.name (n := n + 1) hname).go A env s N rm F.toVw).go _ _ fun v s1 N1 g1 r1 => ?_) (hs env)
  refine r1.eRef ?_
  have F1 := F.gr g1
  refine pyIter_ci (F1.ext _ hmem).1 ?_
  let Inv : Nat → Shared → Prop := ItI G sc on env s₀ X₀ ⟨X₀ ++ (it, itObj q t (b σ₀)) :: Y, s₀, N₀⟩ Y it q t P b Wf cxs meas
  refine codeAny_for Inv ?_ (meas σ₀) ⟨σ₀, N1, N₀, X₀, rfl, h0, w, fun q hq => ⟨q, hq, rfl⟩, Bse.Le.refl _, F1.sub hsub⟩
  rintro c s' ⟨σ, N', N₁, X, rfl, hP, wX, hall, hB, F'⟩
  have hXit : ∀ {X : Xs} {W : Wd} {N : Lg} {bb : Bool}, WX W N X ((it, itObj q t bb) :: Y) → ∀ p ∈ X, p.1 ≠ it := fun wx p hp => wx.ap p hp _ (.head _)
  cases hb : b σ with
  | true =>
    rw [hb] at wX hB F'
    refine next_ended rm.handled (F'.ext _ hmem).1 fun h' hk => ?_
    exact k σ _ N' N₁ X _ hP (.inl ⟨hb, rfl⟩) wX hall hB (F'.gr (Gr.keeps (s' := { s' with heap := h' }) F'.toOk hk rfl rfl))
  | false =>
    rw [hb] at wX hB F'
    have hit := F'.ext _ hmem
    refine next_run rm F'.toOk (wX.hx F') (wX.now F') hit.1 hit.2.1 (hXit wX) (F'.le _ _ (hB.le _ _ hq)) (let ⟨⟨o, h1, h2⟩, c, oc, vs, t, h3, h4, h5⟩ := hf; ⟨⟨o, F'.tp _ _ h1, h2⟩, c, oc, vs, t, h3, F'.tp _ _ h4, h5⟩) (hc σ hP hb) (fun hne v s2 N2 X2 g2 hi2 hw2 r2 => ?_) (fun he s2 N2 X2 h' g2 hw2 hi2 hk2 => ?_)
    · obtain ⟨w2, a2, l2, F2⟩ := wX.step F' g2 hw2
      show wpAny _ _ (letOwnedTupleGo (.Name x p1) (.ref it) v) _ _ _
      refine wpAny_pure ?_
      obtain ⟨i1, i2, i3⟩ := canSt.all (hx σ hP)
      with_reducible refine wpAny_assign_Name ?_
      refine F2.store i2 i1 i3 r2 fun s3 F3 => ?_
      refine wpAny_mono (turn σ s3 N2 _ N2 X2 (ItQ G sc on env s₀ X2 N2 Y it q t P b Wf cxs meas (meas σ) Q) (fun _ _ h => h) hP hb hne w2 (all_trans hall a2) (hB.trans l2) F3).go (fun f s4 h4 => ?_) (fun _ _ q => q)
      have fin : StIt G sc on env s₀ X2 N2 Y it q t P b Wf cxs meas (meas σ) s4 → ∃ m, m < meas σ ∧ Inv m s4 := by
        rintro ⟨σ', N', N₁', X', h1, h2, h3, h4, h5, h6⟩
        exact ⟨meas σ', h2, σ', N', N₁', X', rfl, h1, h3, all_trans (all_trans hall a2) h4, (hB.trans l2).trans h5, h6⟩
      cases f with
      | next => exact fin h4
      | cont => exact fin h4
      | brk => exact h4.elim
      | ret v => exact h4
    · obtain ⟨w2, a2, l2, F2⟩ := wX.step F' g2 hw2
      have hXY : ∀ p ∈ X2 ++ Y, p.1 ≠ it := fun p hp => by
        rcases List.mem_append.mp hp with hp | hp
        · exact hXit w2 p hp
        · exact hY p hp
      have F3 := F2.endIt hXY hi2 hk2
      have l3 : Bse.Le ⟨X2 ++ (it, itObj q t false) :: Y, s₀, N2⟩ ⟨X2 ++ (it, itObj q t true) :: Y, s₀, N2⟩ := ⟨rfl, fun p hp => by
        rcases List.mem_append.mp hp with hp | hp
        · exact .inl ⟨p, List.mem_append_left _ hp, rfl⟩
        · rcases List.mem_cons.mp hp with rfl | hp
          · exact .inl ⟨_, hmem, rfl⟩
          · exact .inl ⟨p, List.mem_append_right _ (.tail _ hp), rfl⟩, fun _ _ e => e, fun _ _ e => .inl e⟩
      refine k σ _ N2 N2 X2 _ hP (.inr ⟨hb, he, rfl⟩) ⟨w2.p, w2.nc, fun p hp q' hq' => ?_⟩ (all_trans hall a2) ((hB.trans l2).trans l3) F3
      rcases List.mem_cons.mp hq' with rfl | hq'
      · exact hXit w2 p hp
      · exact w2.ap p hp q' (.tail _ hq')
end
end Mine
end
section
set_option tactic.hygienic false
open PySem PySem.W PyProof.Rows
namespace Mine
noncomputable def Wd.plus (W : Wd) (pb : Addr) : Wd where
  P := fun N X => ∃ X0, X = X0 ++ [(pb, listOf (List.toArray []) 0)] ∧ (∀ p ∈ X0, p.1 ≠ pb) ∧ W.P N X0
  mono := fun hs ⟨X0, h1, h2, h3⟩ => ⟨X0, h1, h2, W.mono hs h3⟩
noncomputable def Wd.ex (W : Addr → Wd) : Wd where
  P := fun N X => ∃ a, (W a).P N X
  mono := fun hs ⟨a, h⟩ => ⟨a, (W a).mono hs h⟩
theorem PutA.plus {W W' : Wd} {x C pb : Addr} {name : Str} {d : D} (h : PutA W x C name d W') : PutA (W.plus pb) x C name d (W'.plus pb) := by
  refine ⟨fun N X ⟨X0, h1, h2, h3⟩ => ?_⟩
  obtain ⟨X1, X2, dx, o, od, m, n, e1, e2, e3, e4, e5, e6, e7⟩ := h.go N X0 h3
  subst e1
  have hdx : dx ≠ pb := h2 (dx, od) (List.mem_append_right _ (.head _))
  refine ⟨X1, X2 ++ [(pb, listOf (List.toArray []) 0)], dx, o, od, m, n, by rw [h1]; simp, fun p hp => ?_, e3, e4, e5, e6, fun od' v r hd => ⟨X1 ++ (dx, od') :: X2, by simp, fun p hp => ?_, e7 od' v r hd⟩⟩
  · rcases List.mem_append.mp hp with hp | hp
    · exact e2 p (List.mem_append_left _ hp)
    · rcases List.mem_append.mp hp with hp | hp
      · exact e2 p (List.mem_append_right _ hp)
      · rcases List.mem_singleton.mp hp with rfl; exact hdx.symm
  · rcases List.mem_append.mp hp with hp | hp
    · exact h2 p (List.mem_append_left _ hp)
    · rcases List.mem_cons.mp hp with rfl | hp
      · exact hdx
      · exact h2 p (List.mem_append_right _ (.tail _ hp))
theorem PutA.weak {W W' W'' : Wd} {x C : Addr} {name : Str} {d : D} (h : PutA W x C name d W') (k : ∀ N X, W'.P N X → W''.P N X) : PutA W x C name d W'' := by
  refine ⟨fun N X hw => ?_⟩
  obtain ⟨X1, X2, dx, o, od, m, n, e1, e2, e3, e4, e5, e6, e7⟩ := h.go N X hw
  exact ⟨X1, X2, dx, o, od, m, n, e1, e2, e3, e4, e5, e6, fun od' v r hd => k _ _ (e7 od' v r hd)⟩
section
variable {G : Gs} {n : Nat} {A : Around} {sc : Scope} {on : List Str} {cx cx0 : Cx} {env : Env} {s : Shared} {N N₁ : Lg} {X Y : Xs} {W W' : Wd} {s₀ : Shared}
variable {Q : Flow → Shared → Prop} {E : Value → Shared → Prop} {rest : List Stmt}
theorem Hx.fresh (hx : Hx X s N) {a : Addr} (h : s.heap.get? a = none) : ∀ p ∈ X, p.1 ≠ a := fun p hp e => by have := hx.at_ p hp; rw [e, h] at this; cases this
theorem GrX.fresh {s1 : Shared} {N1 : Lg} {a : Addr} {o : Obj} (ok : Ok G s N) (hx : Hx X s N) (g : Gr s N s1 N1) (h0 : s.heap.get? a = none) (h1 : s1.heap.get? a = some o) (hn : ∀ o, ¬ N1 a o) (hc : ∀ v, o.data ≠ .cell v) : GrX X (X ++ [(a, o)]) s N s1 N1 := by
  refine ⟨fun b q _ e => g.keep b q e, g.le, g.new, g.hold, g.gens, g.os, ⟨fun p hp => ?_, fun p hp => ?_, fun p hp => ?_⟩, fun p hp => ?_, fun q hq => ⟨q, List.mem_append_left _ hq, rfl⟩⟩
  · rcases List.mem_append.mp hp with hp | hp
    · exact g.keep _ _ (hx.at_ p hp)
    · rcases List.mem_singleton.mp hp with rfl; exact h1
  · rcases List.mem_append.mp hp with hp | hp
    · exact (hx.gr g).out p hp
    · rcases List.mem_singleton.mp hp with rfl; exact hn
  · rcases List.mem_append.mp hp with hp | hp
    · exact hx.nc p hp
    · rcases List.mem_singleton.mp hp with rfl; exact hc
  · rcases List.mem_append.mp hp with hp | hp
    · exact .inl ⟨p, hp, rfl⟩
    · rcases List.mem_singleton.mp hp with rfl; exact .inr h0
theorem putList {o : Expr} {name : Str} {p p' lp : Pos} {x C : Addr} (w : WX W N₁ X Y) (F : Fs G sc on ⟨X ++ Y, s₀, N₁⟩ cx env s N) (rm : Rm A n) (hsub : ∀ q ∈ cx0, q ∈ cx) (ho : Ev G n sc cx0 o (.ref x)) (so : storeOk G.K C name = true) (hp : ∀ pb, PutA (W.plus pb) x C name (.ref pb) W')
    (k : ∀ s' N' X', WX W' N' X' Y → AllX X X' → Bse.Le ⟨X ++ Y, s₀, N₁⟩ ⟨X' ++ Y, s₀, N'⟩ → Fs G sc on ⟨X' ++ Y, s₀, N'⟩ cx env s' N' → Wp G A (execs rest env) Q E s')
    (hw : ∀ line env, EnvOk sc env → swapsWith (.List [] lp) (some (Expr.Attribute o name p)) line env = Pure.pure false := by intro _ _ _; rfl) : Wp G A (execs (.Assign [.Attribute o name p] (.List [] lp) p' :: rest) env) Q E s := by
  refine wseq ⟨?_⟩
  have hx := w.hx F
  with_reducible refine plainObj_wpAny_Assign_Attribute ?_ (hw _ _ F.envOk)
  with_reducible refine wpAny_List ((EvL.nil (G := G) (n := n) (sc := sc) (cx := cx)).go A env s N lp rm F.toVw _ _ fun vs s1 N1 g1 r1 => ?_)
  cases r1
  refine ⟨Nat.zero_le _, ?_⟩
  have F1 := F.gr g1
  generalize hpb : s1.heap.objs.size = pb
  have hn1 : s1.heap.get? pb = none := Heap.get?_none_of_le (Nat.le_of_eq hpb)
  have hN1 : ∀ o, ¬ N1 pb o := fun o e => by have := F1.hold _ _ e; rw [hn1] at this; cases this
  have gp : Gr s1 N1 { s1 with heap := s1.heap.push (listOf (List.toArray []) 0) } N1 := Gr.keeps F1.toOk (fun a o e => Heap.get?_push_of_some _ e) rfl rfl
  have hat : (s1.heap.push (listOf (List.toArray []) 0)).get? pb = some (listOf (List.toArray []) 0) := by rw [← hpb]; exact Heap.get?_push_size _ rfl
  have gx := GrX.fresh F.toOk hx (g1.trans gp) (none_of_keep g1.keep hn1) hat hN1 (fun v => by simp)
  have hwp : (W.plus pb).P N1 (X ++ [(pb, listOf (List.toArray []) 0)]) := ⟨X, rfl, hx.fresh (none_of_keep g1.keep hn1), W.mono g1.le (w.now F)⟩
  obtain ⟨i1, i2, i3, i4⟩ := w.step F gx hwp
  refine (ho.go A env _ N1 rm (i4.sub hsub).toVw).go _ _ fun ov s2 N2 g2 r2 => ?_
  refine r2.eRef ?_
  have ok2 := (i4.gr g2).toOk
  have hx2 := gx.hx.gr g2
  refine put_ ok2 hx2 ((W.plus pb).mono g2.le hwp) so (hp pb) (.ref pb) fun s3 X3 g3 hw3 => ?_
  obtain ⟨h1, h2, h3, h4⟩ := w.step F ((gx.trans (g2.x gx.hx) hx).trans g3 hx) hw3
  exact k s3 _ X3 h1 h2 h3 h4
theorem new_x {C fI : Addr} {args : List D} {W' : Addr → Wd} {vs : List Value} {Q : Value → Shared → Prop} (hm : makesIn G.K C = true) (hi : findIn G.K (.ref C) "__init__" = some (some (.ref fI))) (hf : typeIn G.K (.ref fI) = some (.type "function"))
    (hc : ∀ x, FnXC G n (.ref fI) (.ref x :: args) (WI x C []) (W' x) .none) (rm : Rm A (n + 1)) (ok : Ok G s N) (hr : Rps N vs args)
    (k : ∀ x s' N' X', GrX [] X' s N s' N' → s.heap.get? x = none → (W' x).P N' X' → Q (.ref x) s') : wpAny G.M A (call (.ref C) vs) Q E s := by
  obtain ⟨h, g, dr, t, os⟩ := s
  have X := ok.frag
  refine wpAny_call (make_core (makes_of X hm) (looks_findIn X hi) (fun self => bind_fn X self hf) (.inl rfl) ?_)
  have sz : (h.push emptyDict).objs.size = h.objs.size + 1 := Heap.size_push ..
  have k2 : ∀ b o, h.get? b = some o → ((h.push emptyDict).push (instObj C h.objs.size)).get? b = some o := fun b o e => Heap.get?_push_of_some _ (Heap.get?_push_of_some _ e)
  have hD : ((h.push emptyDict).push (instObj C h.objs.size)).get? h.objs.size = some emptyDict := Heap.get?_push_of_some _ (Heap.get?_push_size _ rfl)
  have hx : ((h.push emptyDict).push (instObj C h.objs.size)).get? (h.objs.size + 1) = some (instObj C h.objs.size) := by rw [← sz]; exact Heap.get?_push_size _ rfl
  generalize hh2 : (h.push emptyDict).push (instObj C h.objs.size) = h2 at *
  have fr : ∀ a, h.objs.size ≤ a → h.get? a = none := fun a e => Heap.get?_none_of_le e
  have g1 : Gr ⟨h, g, dr, t, os⟩ N ⟨h2, g, dr, t, os⟩ N := Gr.keeps ok k2 rfl rfl
  have g2 : Gr ⟨h, g, dr, t, os⟩ N ⟨h2, g, dr, t, os⟩ (N.add (h.objs.size + 1) (instObj C h.objs.size)) := g1.freeze (fr _ (Nat.le_succ _)) hx
  have hN : ∀ a, h.objs.size ≤ a → ∀ o, ¬ N a o := fun a e o q => by have := ok.hold _ _ q; have e' : h.get? a = none := fr a e; rw [e'] at this; cases this
  have hx2 : Hx [(h.objs.size, emptyDict)] ⟨h2, g, dr, t, os⟩ (N.add (h.objs.size + 1) (instObj C h.objs.size)) := by
    refine ⟨fun p hp => ?_, fun p hp o q => ?_, fun p hp v => ?_⟩ <;> rcases List.mem_singleton.mp hp with rfl
    · exact hD
    · rcases q with q | ⟨q, _⟩
      · exact hN _ (Nat.le_refl _) o q
      · exact absurd q (Nat.ne_of_lt (Nat.lt_succ_self _))
    · show emptyDict.data ≠ _; simp
  have hw : (WI (h.objs.size + 1) C []).P (N.add (h.objs.size + 1) (instObj C h.objs.size)) [(h.objs.size, emptyDict)] :=
    ⟨_, _, _, fun _ => none, 0, rfl, Lg.add_self .., ⟨rfl, rfl, rfl⟩, ⟨#[], _, rfl, fun e he => by simp at he, fun name => by simp [nsFind, findBy], by simp⟩, Nat.le_refl _, fun _ => rfl⟩
  refine codeAny_mono ((hc (h.objs.size + 1)).go _ ⟨h2, g, dr, t, os⟩ _ (.ref (h.objs.size + 1) :: vs) _ rm.under (g2.ok ok) hx2 hw (.cons (.ref _) (hr.mono g2.le)) (fun v s' => v = .none ∧ Q (.ref (h.objs.size + 1)) s') E fun v s' N' X' gx hw' r => ?_) fun r s' z => ?_
  · refine r.eNone ?_
    refine ⟨rfl, k _ s' N' X' ⟨fun a o _ e => gx.keep a o (fun p hp q => ?_) (k2 a o e), fun a o e => gx.le a o (g2.le a o e), fun a o e => ?_, gx.hold, gx.gens, gx.os, gx.hx, fun p hp => ?_, fun q hq => (nomatch hq)⟩ (fr _ (Nat.le_succ _)) hw'⟩
    · rcases List.mem_singleton.mp hp with rfl
      have q : h.objs.size = a := q
      have e : h.get? a = some o := e
      rw [← q, fr _ (Nat.le_refl _)] at e; cases e
    · rcases gx.new a o e with e | e
      · exact g2.new a o e
      · exact .inr (none_of_keep k2 e)
    · rcases gx.src p hp with ⟨q, hq, e⟩ | e
      · rcases List.mem_singleton.mp hq with rfl
        have e : h.objs.size = p.1 := e
        right; show h.get? p.1 = none; rw [← e]; exact fr _ (Nat.le_refl _)
      · exact .inr (none_of_keep k2 e)
  · rcases r with e | (v | _ | _ | _)
    · exact z
    all_goals first | exact z.elim | exact z
end
end Mine
end
section
set_option tactic.hygienic false
open PySem PySem.W PyProof.Rows
namespace Mine
theorem GrX.frz {X X1 X2 : Xs} {s s' : Shared} {N N' : Lg} {a : Addr} {o : Obj} (g : GrX X (X1 ++ (a, o) :: X2) s N s' N') (h0 : s.heap.get? a = none) (hX : ∀ p ∈ X, p.1 ≠ a) (hd : ∀ p ∈ X1 ++ X2, p.1 ≠ a) : GrX X (X1 ++ X2) s N s' (N'.add a o) := by
  have hm : (a, o) ∈ X1 ++ (a, o) :: X2 := List.mem_append_right _ (.head _)
  have sub : ∀ p ∈ X1 ++ X2, p ∈ X1 ++ (a, o) :: X2 := fun p hp => by
    rcases List.mem_append.mp hp with hp | hp
    · exact List.mem_append_left _ hp
    · exact List.mem_append_right _ (.tail _ hp)
  refine ⟨g.keep, fun b q e => .inl (g.le b q e), fun b q e => ?_, fun b q e => ?_, g.gens, g.os, ⟨fun p hp => g.hx.at_ p (sub p hp), fun p hp q e => ?_, fun p hp => g.hx.nc p (sub p hp)⟩, fun p hp => g.src p (sub p hp), fun q hq => ?_⟩
  · rcases e with e | ⟨rfl, rfl⟩
    · exact g.new b q e
    · exact .inr h0
  · rcases e with e | ⟨rfl, rfl⟩
    · exact g.hold b q e
    · exact g.hx.at_ _ hm
  · rcases e with e | ⟨e, _⟩
    · exact g.hx.out p (sub p hp) q e
    · exact hd p hp e
  · obtain ⟨p, hp, e⟩ := g.all q hq
    rcases List.mem_append.mp hp with hp | hp
    · exact ⟨p, List.mem_append_left _ hp, e⟩
    · rcases List.mem_cons.mp hp with rfl | hp
      · exact absurd e.symm (hX q hq)
      · exact ⟨p, List.mem_append_right _ hp, e⟩
theorem GrX.frz1 {X X' : Xs} {s s' : Shared} {N N' : Lg} {a : Addr} {o : Obj} (g : GrX X X' s N s' N') (h0 : s.heap.get? a = none) (h1 : s'.heap.get? a = some o) (hd : ∀ p ∈ X', p.1 ≠ a) : GrX X X' s N s' (N'.add a o) := by
  refine ⟨g.keep, fun b q e => .inl (g.le b q e), fun b q e => ?_, fun b q e => ?_, g.gens, g.os, ⟨g.hx.at_, fun p hp q e => ?_, g.hx.nc⟩, g.src, g.all⟩
  · rcases e with e | ⟨rfl, rfl⟩
    · exact g.new b q e
    · exact .inr h0
  · rcases e with e | ⟨rfl, rfl⟩
    · exact g.hold b q e
    · exact h1
  · rcases e with e | ⟨e, _⟩
    · exact g.hx.out p hp q e
    · exact hd p hp e
section
variable {G : Gs} {n : Nat} {A : Around} {sc : Scope} {on : List Str} {cx cx0 : Cx} {env : Env} {s : Shared} {N N₁ : Lg} {X Y : Xs} {W W' : Wd} {s₀ : Shared}
theorem WX.anyw {X Y Z : Xs} {s₀ : Shared} (F : Fs G sc on ⟨Z, s₀, N₁⟩ cx env s N) (nc : ∀ p ∈ X, ∀ v, p.2.data ≠ .cell v) (ap : ∀ p ∈ X, ∀ q ∈ Y, p.1 ≠ q.1) : WX Wd.any N₁ X Y := ⟨trivial, nc, ap⟩
theorem ev_lambda {params : Arguments} {body : Expr} {scope : Scope} {pos : Pos} {c P : Addr} {clos : List (Str × Addr)} {Q E : Value → Shared → Prop} (ok : Ok G s N) (hx : Hx [(P, tabObj #[])] s N) (hdef : defaultsOf params env = ([], [])) (hcl : closureFor scope env = pure clos) (hge : env.globals = mainGlobals) (hcode : env.code = .ref c) (C : CodeHd s.heap c P)
    (hb : ∃ bm ob, G.mg "__builtins__" = some (.ref bm) ∧ bm ≠ builtinsNs ∧ bm ≠ mainGlobals ∧ bm ≠ P ∧ G.base bm ob ∧ ob.cls = .type "module" ∧ ob.dict = some builtinsNs ∧ ob.data = .plain) (hgP : mainGlobals ≠ P)
    (k : ∀ fl cd oc vs t ctv mo s' N', GrX [(P, tabObj #[])] [(P, tabObj mo)] s N s' N' → N' fl (kla_obj "<lambda>" (env.qual ++ "<lambda>") params body scope clos ((G.mg "__name__").getD .none) cd ctv) → N' cd oc → oc.data = .fields vs → vs[1]? = some (.str (env.qual ++ "<lambda>") t) → Q (.ref fl) s') :
    wpAny G.M A (eval (.Lambda params body scope pos) env) Q E s := by
  obtain ⟨bm, ob, b1, b2, b3, b4, b5, b6⟩ := hb
  refine kla_eval hdef (kla_makeFunction (mg := G.mg) (ps := #[]) hcl hge (ok.tp.g.ns ok.hold) hcode C (hx.at_ _ (.head _)) trivial rfl hgP ⟨bm, ob, b1, b2, b3, b4, ok.at b5, b6⟩ fun c' ctv h' tk hext hge' hlt hrec htb => ?_)
  obtain ⟨c2, oc, vs, t, e2, hoc, hd, hv⟩ := hrec
  cases e2
  generalize hfo : kla_obj "<lambda>" (env.qual ++ "<lambda>") params body scope clos ((G.mg "__name__").getD .none) c' ctv = fo
  have hfr : ∀ a, s.heap.objs.size ≤ a → s.heap.get? a = none := fun a e => Heap.get?_none_of_le e
  have hPs : P < s.heap.objs.size := Heap.lt_size (hx.at_ _ (.head _))
  have hsz : s.heap.objs.size ≤ h'.objs.size := Nat.le_of_lt (Nat.lt_of_le_of_lt hge' hlt)
  have hfl : (h'.push fo).get? h'.objs.size = some fo := Heap.get?_push_size _ (by rw [← hfo]; rfl)
  have nt : ∀ o, ¬ N P o := hx.out _ (.head _)
  have g0 : GrX [(P, tabObj #[])] [(P, tabObj (#[] ++ #[rawInt pos.line, rawInt pos.col, .ref c']))] s N { s with heap := h'.push fo, toks := tk } N := by
    refine ⟨fun a o h e => Heap.get?_push_of_some _ (hext a o (fun q => h _ (.head _) q.symm) e), fun _ _ e => e, fun _ _ e => .inl e, fun a o e => Heap.get?_push_of_some _ (hext a o (fun q => nt o (q ▸ e)) (ok.hold a o e)), rfl, rfl, ⟨fun p hp => ?_, fun p hp => ?_, fun p hp v => ?_⟩, fun p hp => ?_, fun q hq => ?_⟩
    · rcases List.mem_singleton.mp hp with rfl; exact Heap.get?_push_of_some _ htb
    · rcases List.mem_singleton.mp hp with rfl; exact nt
    · rcases List.mem_singleton.mp hp with rfl; simp [tabObj]
    · rcases List.mem_singleton.mp hp with rfl; exact .inl ⟨_, .head _, rfl⟩
    · rcases List.mem_singleton.mp hq with rfl; exact ⟨_, .head _, rfl⟩
  have hne1 : P ≠ c' := Nat.ne_of_lt (Nat.lt_of_lt_of_le hPs hge')
  have hne2 : P ≠ h'.objs.size := Nat.ne_of_lt (Nat.lt_of_lt_of_le hPs hsz)
  have g1 := g0.frz1 (a := c') (o := oc) (hfr _ hge') (Heap.get?_push_of_some _ hoc) (fun p hp => by rcases List.mem_singleton.mp hp with rfl; exact hne1)
  have g2 := g1.frz1 (a := h'.objs.size) (o := fo) (hfr _ hsz) hfl (fun p hp => by rcases List.mem_singleton.mp hp with rfl; exact hne2)
  exact k h'.objs.size c' oc vs t ctv _ _ _ g2 (by rw [hfo]; exact Lg.add_self _ _ _) (.inl (Lg.add_self _ _ _)) hd hv
end
end Mine
end
section
set_option tactic.hygienic false
open PySem PySem.W PyProof.Rows
namespace Mine
open PySem.MeetsSeq (EqGives)
open PySem.AutoSeq1 (wpAny_loadPart')
noncomputable def RcGives (op : CmpOp) (y x : Value) (b : Bool) : Prop := ∀ (prog : Program) (w : World) (A : Around) (E : Value → Shared → Prop) (s : Shared) (Q : Value → Shared → Prop), Q (.bool b) s → wpAny (model prog w) A (richCompare op y x) Q E s
noncomputable def walkC (e r : Nat → Bool) (fin : Bool) : Nat → Nat → Bool
  | 0, _ => fin
  | k + 1, i => if e i then walkC e r fin k (i + 1) else r i
noncomputable def sizeB (op : CmpOp) (m n : Nat) : Bool := match op with
  | .Lt => decide (m < n)
  | _ => decide (m > n)
noncomputable def opCode (op : CmpOp) : Nat := match op with
  | .Lt => 0
  | _ => 4
set_option maxHeartbeats 2000000 in
theorem cmp_loop (op : CmpOp) (hop : op = .Lt ∨ op = .Gt) (l b : Addr) (items items2 : Array Value) (n n2 : Nat) (dd dd2 : Option Addr) (sl sl2 : Array (Option Value)) (e r : Nat → Bool)
    (he : ∀ j (h1 : j < items.size) (h2 : j < items2.size), EqGives items[j] items2[j] (e j)) (hr : ∀ j (h1 : j < items.size) (h2 : j < items2.size), e j = false → RcGives op items[j] items2[j] (r j)) (k : Nat) :
    ∀ i : Nat, min items.size items2.size - i = k → Meets (Builtin.«list.__eq__.loop» ⟨[.ref l, .ref b, rawInt i, rawInt (opCode op)], []⟩)
      (fun A R s => s.heap.get? l = some { cls := .type "list", dict := dd, data := .seq items n, slots := sl } ∧ s.heap.get? b = some { cls := .type "list", dict := dd2, data := .seq items2 n2, slots := sl2 } ∧
        R (.ok (.ret (.bool (walkC e r (sizeB op items.size items2.size) k i)))) s) := by
  induction k with
  | zero =>
    intro i hk prog w A R s h
    obtain ⟨hp, g, d, tk, os⟩ := s; obtain ⟨hl, hb, h⟩ := h
    have hno : items[((i : Nat) : Int).toNat]? = none ∨ items2[((i : Nat) : Int).toNat]? = none := by
      rcases (show items.size ≤ i ∨ items2.size ≤ i by omega) with h1 | h1
      · exact .inl (by simp; exact h1)
      · exact .inr (by simp; exact h1)
    rcases hop with rfl | rfl
    all_goals
      wp_walk using wpAny_loadPart' hl, wpAny_loadPart' hb
      rcases hno with h1 | h1
      · rw [h1]
        wp_walk using wpAny_loadPart' hl, wpAny_loadPart' hb
        exact h
      · rw [h1]
        cases items[((i : Nat) : Int).toNat]? with
        | none =>
          wp_walk using wpAny_loadPart' hl, wpAny_loadPart' hb
          exact h
        | some x =>
          wp_walk using wpAny_loadPart' hl, wpAny_loadPart' hb
          exact h
  | succ k ih =>
    intro i hk prog w A R s h
    obtain ⟨hp, g, d, tk, os⟩ := s; obtain ⟨hl, hb, h⟩ := h
    have hlt : i < items.size := by omega
    have hlt2 : i < items2.size := by omega
    have hi1 : items[((i : Nat) : Int).toNat]? = some items[i] := by simp [hlt]
    have hi2 : items2[((i : Nat) : Int).toNat]? = some items2[i] := by simp [hlt2]
    have hc : ((i : Int) + 1) = ((i + 1 : Nat) : Int) := by push_cast; rfl
    unfold walkC at h
    have ih' := ih (i + 1) (by omega)
    have hr' := hr i hlt hlt2
    clear ih hr
    rcases hop with rfl | rfl
    all_goals
      wp_walk using wpAny_loadPart' hl, wpAny_loadPart' hb
      rw [hi1, hi2]
      refine wpAny_bind (he i hlt hlt2 prog w _ _ _ _ ?_)
      cases hb' : e i with
      | true =>
        rw [hb', if_pos rfl] at h
        wp_walk
        rw [hc]
        exact ⟨plainId_quiet PySem.MeetsSeq3.plain_eq_loop _, codeAny_builtin PySem.MeetsSeq3.entry_eq_loop (by
          rw [Around.under_plainId PySem.MeetsSeq3.plain_eq_loop _]
          exact ih' prog w A R _ ⟨hl, hb, h⟩)⟩
      | false =>
        rw [hb', if_neg (by simp)] at h
        wp_walk using wpAny_loadPart' hl, wpAny_loadPart' hb
        rw [hi1, hi2]
        refine wpAny_bind (hr' hb' prog w _ _ _ _ ?_)
        wp_walk
        exact h
theorem entry_list_gt' : entryFor table "list.__gt__" = some Builtin.«list.__gt__» := entryFor_of_tree (by kernel_rfl)
theorem list_cmp_lt (l b : Addr) (items items2 : Array Value) (n n2 : Nat) (dd dd2 : Option Addr) (sl sl2 : Array (Option Value)) (e r : Nat → Bool)
    (he : ∀ j (h1 : j < items.size) (h2 : j < items2.size), EqGives items[j] items2[j] (e j)) (hr : ∀ j (h1 : j < items.size) (h2 : j < items2.size), e j = false → RcGives .Lt items[j] items2[j] (r j)) :
    Meets (Builtin.«list.__lt__» ⟨[.ref l, .ref b], []⟩)
      (fun A R s => s.heap.get? l = some { cls := .type "list", dict := dd, data := .seq items n, slots := sl } ∧ s.heap.get? b = some { cls := .type "list", dict := dd2, data := .seq items2 n2, slots := sl2 } ∧
        R (.ok (.ret (.bool (walkC e r (sizeB .Lt items.size items2.size) (min items.size items2.size) 0)))) s) := by
  intro prog w A R s h
  obtain ⟨hp, g, d, tk, os⟩ := s; obtain ⟨hl, hb, h⟩ := h
  have f3 := AutoSeq1.sub_list_list
  wp_walk using wpAny_loadPart' hl, wpAny_loadPart' hb
  exact ⟨plainId_quiet PySem.MeetsSeq3.plain_eq_loop _, codeAny_builtin PySem.MeetsSeq3.entry_eq_loop (by
    rw [Around.under_plainId PySem.MeetsSeq3.plain_eq_loop _]
    exact cmp_loop .Lt (.inl rfl) l b items items2 n n2 dd dd2 sl sl2 e r he hr _ 0 (by simp) prog w A R _ ⟨hl, hb, h⟩)⟩
theorem list_cmp_gt (l b : Addr) (items items2 : Array Value) (n n2 : Nat) (dd dd2 : Option Addr) (sl sl2 : Array (Option Value)) (e r : Nat → Bool)
    (he : ∀ j (h1 : j < items.size) (h2 : j < items2.size), EqGives items[j] items2[j] (e j)) (hr : ∀ j (h1 : j < items.size) (h2 : j < items2.size), e j = false → RcGives .Gt items[j] items2[j] (r j)) :
    Meets (Builtin.«list.__gt__» ⟨[.ref l, .ref b], []⟩)
      (fun A R s => s.heap.get? l = some { cls := .type "list", dict := dd, data := .seq items n, slots := sl } ∧ s.heap.get? b = some { cls := .type "list", dict := dd2, data := .seq items2 n2, slots := sl2 } ∧
        R (.ok (.ret (.bool (walkC e r (sizeB .Gt items.size items2.size) (min items.size items2.size) 0)))) s) := by
  intro prog w A R s h
  obtain ⟨hp, g, d, tk, os⟩ := s; obtain ⟨hl, hb, h⟩ := h
  have f3 := AutoSeq1.sub_list_list
  wp_walk using wpAny_loadPart' hl, wpAny_loadPart' hb
  exact ⟨plainId_quiet PySem.MeetsSeq3.plain_eq_loop _, codeAny_builtin PySem.MeetsSeq3.entry_eq_loop (by
    rw [Around.under_plainId PySem.MeetsSeq3.plain_eq_loop _]
    exact cmp_loop .Gt (.inr rfl) l b items items2 n n2 dd dd2 sl sl2 e r he hr _ 0 (by simp) prog w A R _ ⟨hl, hb, h⟩)⟩
end Mine
end
section
set_option tactic.hygienic false
open PySem PySem.W PyProof.Rows
namespace Mine
open PySem.MeetsSeq (EqGives)
noncomputable def lexG {α : Type} [DecidableEq α] (r : α → α → Bool) (za zb : Bool) : List α → List α → Bool
  | [], [] => false
  | [], _ :: _ => za
  | _ :: _, [] => zb
  | x :: xs, y :: ys => if x = y then lexG r za zb xs ys else r x y
theorem walkC_eq {α : Type} [DecidableEq α] (rel : α → α → Bool) (op : CmpOp) (hop : op = .Lt ∨ op = .Gt) (e r : Nat → Bool) (n m : Nat) : ∀ (xs ys : List α) (k i : Nat), i + xs.length = n → i + ys.length = m → k = min xs.length ys.length →
    (∀ j x y, xs[j]? = some x → ys[j]? = some y → e (i + j) = decide (x = y) ∧ r (i + j) = rel x y) → walkC e r (sizeB op n m) k i = lexG rel (op == .Lt) (op == .Gt) xs ys
  | [], ys, k, i, h1, h2, hk, _ => by
    have : k = 0 := by simp at hk; exact hk
    subst this
    cases ys with
    | nil => rcases hop with rfl | rfl <;> simp [walkC, lexG, sizeB] at * <;> lia
    | cons y ys =>
      simp at h1 h2
      rcases hop with rfl | rfl
      · show decide (n < m) = true; exact decide_eq_true (by lia)
      · show decide (n > m) = false; exact decide_eq_false (by lia)
  | x :: xs, [], k, i, h1, h2, hk, _ => by
    have : k = 0 := by simp at hk; exact hk
    subst this
    simp at h1 h2
    rcases hop with rfl | rfl
    · show decide (n < m) = false; exact decide_eq_false (by lia)
    · show decide (n > m) = true; exact decide_eq_true (by lia)
  | x :: xs, y :: ys, k, i, h1, h2, hk, h => by
    obtain ⟨k', rfl⟩ : ∃ k', k = k' + 1 := ⟨min xs.length ys.length, by simp at hk; lia⟩
    have h0 := h 0 x y rfl rfl
    rw [Nat.add_zero] at h0
    unfold walkC lexG
    rw [h0.1, h0.2]
    by_cases hxy : x = y
    · rw [if_pos (by simpa using hxy), if_pos hxy]
      refine walkC_eq rel op hop e r n m xs ys k' (i + 1) (by simp at h1; lia) (by simp at h2; lia) (by simp at hk; lia) fun j a b ha hb => ?_
      have := h (j + 1) a b (by simpa using ha) (by simpa using hb)
      rwa [show i + (j + 1) = i + 1 + j by lia] at this
    · rw [if_neg (by simpa using hxy), if_neg hxy]
theorem rc_lt_int (a b : Int) (t u : Tok) : RcGives .Lt (.int a t) (.int b u) (decide (a < b)) := fun prog w A E s Q h => PyProof.Rows.lt_int h
theorem rc_gt_int (a b : Int) (t u : Tok) : RcGives .Gt (.int a t) (.int b u) (decide (b < a)) := fun prog w A E s Q h => PyProof.Rows.gt_int h
theorem rc_lt_str (a b : Str) (t u : Tok) : RcGives .Lt (.str a t) (.str b u) (decide (a.cps.toList < b.cps.toList)) := fun prog w A E s Q h => PyProof.Rows.lt_str (by simpa using h)
section
variable {G : Gs} {n : Nat}
theorem list_form {h : Heap} {a : Addr} {o : Obj} {vs : List Value} {nn : Nat} (e : h.get? a = some o) (hc : o.cls = .type "list") (hd : o.data = .seq vs.toArray nn) : h.get? a = some { cls := .type "list", dict := o.dict, data := .seq vs.toArray nn, slots := o.slots } := by
  rw [e]; obtain ⟨c, d, dt, sl⟩ := o; cases hc; cases hd; rfl
theorem cm_ltI {xs ys : List Int} : Cm2 G n .Lt (.list (xs.map .int)) (.list (ys.map .int)) (lexG (fun a b => decide (a < b)) true false xs ys) := ⟨fun A s N x y rm ok r1 r2 => ⟨fun Q E k => by
  refine r1.eList ?_; intro la oa vs na a1 a2 a3 a4; refine r2.eList ?_; intro lb ob ws nb b1 b2 b3 b4
  obtain ⟨l1, rfl, rfl⟩ := ints_of a4
  obtain ⟨l2, rfl, rfl⟩ := ints_of b4
  have ha := list_form (ok.hold _ _ a1) a2 a3
  have hb := list_form (ok.hold _ _ b1) b2 b3
  show wpAny _ _ (richCompare .Lt (.ref la) (.ref lb)) _ _ _
  refine richCompare_meets_room (op := .Lt) ⟨_, ha, rfl⟩ ⟨_, hb, rfl⟩ PySem.F.slot_list_lt PySem.F.entry_list_lt (PySem.F.args_list_lt_2 _ _) (list_cmp_lt la lb _ _ _ _ _ _ _ _ (fun j => decide ((l1.getD j (0, 0)).1 = (l2.getD j (0, 0)).1)) (fun j => decide ((l1.getD j (0, 0)).1 < (l2.getD j (0, 0)).1)) (fun j h1 h2 => ?_) (fun j h1 h2 _ => ?_)) ⟨ha, hb, ?_⟩ (by have := rm.u; lia)
  · simp only [List.size_toArray, List.length_map] at h1 h2
    have e1 : (l1.map fun p => Value.int p.1 p.2).toArray[j]'(by simpa using h1) = .int (l1.getD j (0, 0)).1 (l1.getD j (0, 0)).2 := by simp [List.getD_eq_getElem?_getD, h1]
    have e2 : (l2.map fun p => Value.int p.1 p.2).toArray[j]'(by simpa using h2) = .int (l2.getD j (0, 0)).1 (l2.getD j (0, 0)).2 := by simp [List.getD_eq_getElem?_getD, h2]
    rw [e1, e2]
    exact EqGives.int _ _ _ _
  · simp only [List.size_toArray, List.length_map] at h1 h2
    have e1 : (l1.map fun p => Value.int p.1 p.2).toArray[j]'(by simpa using h1) = .int (l1.getD j (0, 0)).1 (l1.getD j (0, 0)).2 := by simp [List.getD_eq_getElem?_getD, h1]
    have e2 : (l2.map fun p => Value.int p.1 p.2).toArray[j]'(by simpa using h2) = .int (l2.getD j (0, 0)).1 (l2.getD j (0, 0)).2 := by simp [List.getD_eq_getElem?_getD, h2]
    rw [e1, e2]
    exact rc_lt_int _ _ _ _
  · refine ⟨by simp, ?_⟩
    have := walkC_eq (fun a b : Int => decide (a < b)) .Lt (.inl rfl) (fun j => decide ((l1.getD j (0, 0)).1 = (l2.getD j (0, 0)).1)) (fun j => decide ((l1.getD j (0, 0)).1 < (l2.getD j (0, 0)).1)) (l1.map (·.1)).length (l2.map (·.1)).length (l1.map (·.1)) (l2.map (·.1)) (min (l1.map (·.1)).length (l2.map (·.1)).length) 0 (by simp) (by simp) rfl (fun j a b ha hb => by
      rw [List.getElem?_map] at ha hb
      obtain ⟨p, h1, rfl⟩ := Option.map_eq_some_iff.mp ha
      obtain ⟨q, h2, rfl⟩ := Option.map_eq_some_iff.mp hb
      simp [List.getD_eq_getElem?_getD, h1, h2])
    simp only [List.size_toArray, List.length_map] at this ⊢
    rw [this]
    exact k _ _ (Gr.refl ok)⟩⟩
theorem cm_gtI {xs ys : List Int} : Cm2 G n .Gt (.list (xs.map .int)) (.list (ys.map .int)) (lexG (fun a b => decide (b < a)) false true xs ys) := ⟨fun A s N x y rm ok r1 r2 => ⟨fun Q E k => by
  refine r1.eList ?_; intro la oa vs na a1 a2 a3 a4; refine r2.eList ?_; intro lb ob ws nb b1 b2 b3 b4
  obtain ⟨l1, rfl, rfl⟩ := ints_of a4
  obtain ⟨l2, rfl, rfl⟩ := ints_of b4
  have ha := list_form (ok.hold _ _ a1) a2 a3
  have hb := list_form (ok.hold _ _ b1) b2 b3
  show wpAny _ _ (richCompare .Gt (.ref la) (.ref lb)) _ _ _
  refine richCompare_meets_room (op := .Gt) ⟨_, ha, rfl⟩ ⟨_, hb, rfl⟩ PySem.F.slot_list_gt PySem.F.entry_list_gt (PySem.F.args_list_gt_2 _ _) (list_cmp_gt la lb _ _ _ _ _ _ _ _ (fun j => decide ((l1.getD j (0, 0)).1 = (l2.getD j (0, 0)).1)) (fun j => decide ((l2.getD j (0, 0)).1 < (l1.getD j (0, 0)).1)) (fun j h1 h2 => ?_) (fun j h1 h2 _ => ?_)) ⟨ha, hb, ?_⟩ (by have := rm.u; lia)
  · simp only [List.size_toArray, List.length_map] at h1 h2
    have e1 : (l1.map fun p => Value.int p.1 p.2).toArray[j]'(by simpa using h1) = .int (l1.getD j (0, 0)).1 (l1.getD j (0, 0)).2 := by simp [List.getD_eq_getElem?_getD, h1]
    have e2 : (l2.map fun p => Value.int p.1 p.2).toArray[j]'(by simpa using h2) = .int (l2.getD j (0, 0)).1 (l2.getD j (0, 0)).2 := by simp [List.getD_eq_getElem?_getD, h2]
    rw [e1, e2]
    exact EqGives.int _ _ _ _
  · simp only [List.size_toArray, List.length_map] at h1 h2
    have e1 : (l1.map fun p => Value.int p.1 p.2).toArray[j]'(by simpa using h1) = .int (l1.getD j (0, 0)).1 (l1.getD j (0, 0)).2 := by simp [List.getD_eq_getElem?_getD, h1]
    have e2 : (l2.map fun p => Value.int p.1 p.2).toArray[j]'(by simpa using h2) = .int (l2.getD j (0, 0)).1 (l2.getD j (0, 0)).2 := by simp [List.getD_eq_getElem?_getD, h2]
    rw [e1, e2]
    exact rc_gt_int _ _ _ _
  · refine ⟨by simp, ?_⟩
    have := walkC_eq (fun a b : Int => decide (b < a)) .Gt (.inr rfl) (fun j => decide ((l1.getD j (0, 0)).1 = (l2.getD j (0, 0)).1)) (fun j => decide ((l2.getD j (0, 0)).1 < (l1.getD j (0, 0)).1)) (l1.map (·.1)).length (l2.map (·.1)).length (l1.map (·.1)) (l2.map (·.1)) (min (l1.map (·.1)).length (l2.map (·.1)).length) 0 (by simp) (by simp) rfl (fun j a b ha hb => by
      rw [List.getElem?_map] at ha hb
      obtain ⟨p, h1, rfl⟩ := Option.map_eq_some_iff.mp ha
      obtain ⟨q, h2, rfl⟩ := Option.map_eq_some_iff.mp hb
      simp [List.getD_eq_getElem?_getD, h1, h2])
    simp only [List.size_toArray, List.length_map] at this ⊢
    rw [this]
    exact k _ _ (Gr.refl ok)⟩⟩
end
noncomputable def strLt (a b : Str) : Bool := decide (a.cps.toList < b.cps.toList)
noncomputable def textsLt (xs ys : List Str) : Bool := lexG strLt true false xs ys
end Mine
end
section
set_option tactic.hygienic false
open PySem PySem.W PyProof.Rows
namespace Mine
open PySem.MeetsSeq (EqGives)
section
variable {prog : Program} {w : World} {A : Around} {E : Value → Shared → Prop} {s : Shared}
theorem keyLt_texts {N : Lg} {a b : Value} {xs ys : List Str} {Q : Bool → Shared → Prop} (hu : A.units < cLine) (hold : ∀ a o, N a o → s.heap.get? a = some o) (r1 : Rp N a (.list (xs.map .str))) (r2 : Rp N b (.list (ys.map .str))) (h : Q (textsLt xs ys) s) : wpAny (model prog w) A (keyLt' oneType' a b) Q E s := by
  refine r1.eList ?_; intro la oa vs na a1 a2 a3 a4; refine r2.eList ?_; intro lb ob ws nb b1 b2 b3 b4
  obtain ⟨l1, rfl, rfl⟩ := strs_of a4
  obtain ⟨l2, rfl, rfl⟩ := strs_of b4
  have ha := list_form (hold _ _ a1) a2 a3
  have hb := list_form (hold _ _ b1) b2 b3
  rw [keyLt'_oneType, oneLt'_eq]
  simp only [if_true]
  refine wpAny_bind (wpAny_cRoomFor hu ?_)
  refine wpAny_bind (wpAny_callSpecialIfBound?_slot ⟨_, ha, rfl⟩ PySem.F.slot_list_lt (call_meets PySem.F.slot_list_lt ⟨_, ha, rfl⟩ PySem.F.entry_list_lt (PySem.F.args_list_lt_2 _ _) (list_cmp_lt la lb _ _ _ _ _ _ _ _ (fun j => decide ((l1.getD j ("", 0)).1 = (l2.getD j ("", 0)).1)) (fun j => strLt (l1.getD j ("", 0)).1 (l2.getD j ("", 0)).1) (fun j h1 h2 => ?_) (fun j h1 h2 _ => ?_)) ⟨ha, hb, ?_⟩))
  · simp only [List.size_toArray, strValues, List.length_map] at h1 h2
    have e1 : (strValues l1).toArray[j]'(by simpa [strValues] using h1) = .str (l1.getD j ("", 0)).1 (l1.getD j ("", 0)).2 := by simp [strValues, List.getD_eq_getElem?_getD, h1]
    have e2 : (strValues l2).toArray[j]'(by simpa [strValues] using h2) = .str (l2.getD j ("", 0)).1 (l2.getD j ("", 0)).2 := by simp [strValues, List.getD_eq_getElem?_getD, h2]
    rw [e1, e2]
    exact fun _ _ _ _ _ _ h => wpAny_eqBool_str h
  · simp only [List.size_toArray, strValues, List.length_map] at h1 h2
    have e1 : (strValues l1).toArray[j]'(by simpa [strValues] using h1) = .str (l1.getD j ("", 0)).1 (l1.getD j ("", 0)).2 := by simp [strValues, List.getD_eq_getElem?_getD, h1]
    have e2 : (strValues l2).toArray[j]'(by simpa [strValues] using h2) = .str (l2.getD j ("", 0)).1 (l2.getD j ("", 0)).2 := by simp [strValues, List.getD_eq_getElem?_getD, h2]
    rw [e1, e2]
    exact rc_lt_str _ _ _ _
  · have := walkC_eq strLt .Lt (.inl rfl) (fun j => decide ((l1.getD j ("", 0)).1 = (l2.getD j ("", 0)).1)) (fun j => strLt (l1.getD j ("", 0)).1 (l2.getD j ("", 0)).1) (l1.map (·.1)).length (l2.map (·.1)).length (l1.map (·.1)) (l2.map (·.1)) (min (l1.map (·.1)).length (l2.map (·.1)).length) 0 (by simp) (by simp) rfl (fun j a b ha hb => by
      rw [List.getElem?_map] at ha hb
      obtain ⟨p, h1, rfl⟩ := Option.map_eq_some_iff.mp ha
      obtain ⟨q, h2, rfl⟩ := Option.map_eq_some_iff.mp hb
      simp [List.getD_eq_getElem?_getD, h1, h2])
    simp only [strValues, List.size_toArray, List.length_map] at this ⊢
    rw [this]
    exact wpAny_truthy_bool h
end
end Mine
end
section
set_option tactic.hygienic false
open PySem PySem.W PyProof.Rows
namespace Mine
section
variable {G : Gs} {n : Nat} {A : Around} {sc : Scope} {on : List Str} {B : Bse} {cx cx0 : Cx} {env : Env} {s : Shared} {N : Lg} {W W' : Wd} {X Y : Xs}
noncomputable def Av (env : Env) (s : Shared) (cx : Cx) (a : Addr) : Prop := ∀ y es, (y, Ent.lst es) ∈ cx → ¬ Sees s.heap env y (.ref a)
theorem Fs.storeM' {M : Model} {A : Around} {E : Value → Shared → Prop} {Q : Unit → Shared → Prop} {x : Str} {a : Addr} {vs : List Value} {ds : List D} (F : Fs G sc on B cx env s N) (hx : ∀ p ∈ cx, p.1 ≠ x) (hn : okName x = true)
    (hk : sc.names.lookup x = some .local ∨ (sc.names.lookup x = some .cell ∧ x ∈ on)) (hl : LstAt s.heap a vs.toArray) (r : Rps N vs ds) (h0 : B.s₀.heap.get? a = none) (hN : ∀ o, ¬ N a o) (hX : ∀ p ∈ B.X, p.1 ≠ a)
    (ho : Av env s cx a)
    (k : ∀ s', Fs G sc on B ((x, .lst ds) :: cx) env s' N → (∀ b vs, LstAt s.heap b vs → LstAt s'.heap b vs) → (∀ b, b ≠ a → Av env s cx b → Av env s' ((x, .lst ds) :: cx) b) → Q () s') : wpAny M A (storeName env x (.ref a)) Q E s := by
  obtain ⟨al0, g1, g2⟩ := F.lists
  refine F.store0 hx hn hk fun s' F' hs hll hsee => k s' { F' with vars := fun y t hy => ?_, lists := ?_ } hll fun b hb hav y es hy hz => ?_
  · rcases List.mem_cons.mp hy with e | hy
    · cases e; exact ⟨a, vs, hs, hll _ _ hl, r⟩
    · exact F'.vars y t hy
  · refine ⟨fun y => if y = x then a else al0 y, fun y es hy => ?_, fun y z es fs hy hz e => ?_⟩
    · rcases List.mem_cons.mp hy with e | hy
      · cases e; simp only [if_true]; exact ⟨vs, hs, hll _ _ hl, r, h0, hN, hX⟩
      · have hne : y ≠ x := hx _ hy
        simp only [if_neg hne]
        obtain ⟨ws, p, q, r⟩ := g1 y es hy
        exact ⟨ws, hsee y _ _ hy p, hll _ _ q, r⟩
    · rcases List.mem_cons.mp hy with e1 | hy <;> rcases List.mem_cons.mp hz with e2 | hz
      · cases e1; cases e2; rfl
      · cases e1
        have hne : z ≠ x := hx _ hz
        simp only [if_true, if_neg hne] at e
        obtain ⟨ws, p, _⟩ := g1 z fs hz
        rw [← e] at p
        exact absurd p (ho z fs hz)
      · cases e2
        have hne : y ≠ x := hx _ hy
        simp only [if_true, if_neg hne] at e
        obtain ⟨ws, p, _⟩ := g1 y es hy
        rw [e] at p
        exact absurd p (ho y es hy)
      · have hne : y ≠ x := hx _ hy
        have hne2 : z ≠ x := hx _ hz
        simp only [if_neg hne, if_neg hne2] at e
        exact g2 y z es fs hy hz e
  · rcases List.mem_cons.mp hy with e | hy
    · cases e
      have := hs.uniq hz
      cases this
      exact hb rfl
    · obtain ⟨ws, p, _⟩ := g1 y es hy
      have := (hsee y _ _ hy p).uniq hz
      have e : al0 y = b := by cases this; rfl
      rw [e] at p
      exact hav y es hy p
variable {Q : Flow → Shared → Prop} {E : Value → Shared → Prop} {rest : List Stmt}
theorem asg4L {x1 x2 x3 x4 : Str} {p1 p2 p3 p4 q1 q2 q3 q4 p q p' : Pos} {k1 k2 : Nat} (F : Fs G sc on B cx env s N) (rm : Rm A n) (c1 : canSt sc on cx x1 = true) (c2 : canSt sc on ((x1, .lst []) :: cx) x2 = true) (c3 : canSt sc on ((x2, .lst []) :: (x1, .lst []) :: cx) x3 = true) (c4 : canSt sc on ((x3, .lst []) :: (x2, .lst []) :: (x1, .lst []) :: cx) x4 = true)
    (k : ∀ s' N', Fs G sc on B ((x4, .lst []) :: (x3, .lst []) :: (x2, .lst []) :: (x1, .lst []) :: cx) env s' N' → Wp G A (execs rest env) Q E s')
    (hs : ∀ line env, EnvOk sc env → swapsWithSole [.Tuple [.Name x1 p1, .Name x2 p2, .Name x3 p3, .Name x4 p4] k1 p] (.Tuple [.List [] q1, .List [] q2, .List [] q3, .List [] q4] k2 q) line env = Pure.pure false := by intro _ _ _; rfl)
    (hw : ∀ env, EnvOk sc env → swappedStores [.Tuple [.Name x1 p1, .Name x2 p2, .Name x3 p3, .Name x4 p4] k1 p] (.Tuple [.List [] q1, .List [] q2, .List [] q3, .List [] q4] k2 q) env = Pure.pure none := by intro _ _; rfl) :
    Wp G A (execs (.Assign [.Tuple [.Name x1 p1, .Name x2 p2, .Name x3 p3, .Name x4 p4] k1 p] (.Tuple [.List [] q1, .List [] q2, .List [] q3, .List [] q4] k2 q) p' :: rest) env) Q E s := by
  obtain ⟨a1, a2, a3⟩ := canSt.all c1
  obtain ⟨b1, b2, b3⟩ := canSt.all c2
  obtain ⟨d1, d2, d3⟩ := canSt.all c3
  obtain ⟨e1, e2, e3⟩ := canSt.all c4
  have hE : ∀ {q : Pos}, EvM G n sc cx (.List [] q) [] := fun {q} => EvM.disp .nil (Nat.zero_le _)
  refine wseq ⟨?_⟩
  with_reducible refine Assign_Tuple ?_ (hs _ _ F.envOk) (hw _ F.envOk)
  with_reducible refine wpAny_Tuple ?_
  have z := F.toVw
  with_reducible refine args_cons ((hE.go A env s N rm z).go _ _ fun l1 v1 s1 N1 g1 f1 n1 h1 r1 => ?_) rfl
  with_reducible refine args_cons ((hE.go A env s1 N1 rm (z.gr g1)).go _ _ fun l2 v2 s2 N2 g2 f2 n2 h2 r2 => ?_) rfl
  with_reducible refine args_cons ((hE.go A env s2 N2 rm ((z.gr g1).gr g2)).go _ _ fun l3 v3 s3 N3 g3 f3 n3 h3 r3 => ?_) rfl
  with_reducible refine args_cons ((hE.go A env s3 N3 rm (((z.gr g1).gr g2).gr g3)).go _ _ fun l4 v4 s4 N4 g4 f4 n4 h4 r4 => args_nil ?_) rfl
  cases r1; cases r2; cases r3; cases r4
  refine ⟨by simp [sizeLine], ?_⟩
  have g12 := g1.trans g2
  have g13 := g12.trans g3
  have g14 := g13.trans g4
  have F4 := F.gr g14
  generalize hT : s4.heap.objs.size = T
  have hno : s4.heap.get? T = none := Heap.get?_none_of_le (Nat.le_of_eq hT)
  have hTat : (s4.heap.push { cls := .type "tuple", data := .seq ([.ref l1, .ref l2, .ref l3, .ref l4] : List Value).toArray }).get? T = some { cls := .type "tuple", data := .seq ([.ref l1, .ref l2, .ref l3, .ref l4] : List Value).toArray } := by rw [← hT]; exact Heap.get?_push_size _ rfl
  have gp : Gr s4 N4 { s4 with heap := s4.heap.push { cls := .type "tuple", data := .seq ([.ref l1, .ref l2, .ref l3, .ref l4] : List Value).toArray } } N4 := Gr.keeps F4.toOk (fun a o e => Heap.get?_push_of_some _ e) rfl rfl
  refine wpAny_assign_Tuple rm.handled ⟨_, hTat, rfl, _, rfl⟩ rfl rfl fun h' hx' => ?_
  have gq : Gr { s4 with heap := s4.heap.push { cls := .type "tuple", data := .seq ([.ref l1, .ref l2, .ref l3, .ref l4] : List Value).toArray } } N4 { s4 with heap := h' } N4 := Gr.keeps (gp.ok F4.toOk) (keep_fresh hx') rfl rfl
  have gz := gp.trans gq
  have ga := g14.trans gz
  have F5 : Fs G sc on B cx env { s4 with heap := h' } N4 := F4.gr gz
  have up : ∀ {a : Addr} {s' : Shared} {N' : Lg}, Gr s' N' { s4 with heap := h' } N4 → LstAt s'.heap a ([] : List Value).toArray → LstAt h' a ([] : List Value).toArray := fun g ⟨o, e, r⟩ => ⟨o, g.keep _ _ e, r⟩
  have L1 : LstAt h' l1 ([] : List Value).toArray := up (((g2.trans g3).trans g4).trans gz) h1
  have L2 : LstAt h' l2 ([] : List Value).toArray := up ((g3.trans g4).trans gz) h2
  have L3 : LstAt h' l3 ([] : List Value).toArray := up (g4.trans gz) h3
  have L4 : LstAt h' l4 ([] : List Value).toArray := up gz h4
  have has : ∀ {h : Heap} {a : Addr} {vs : Array Value}, LstAt h a vs → h.get? a ≠ none := fun ⟨o, e, _⟩ q => by rw [e] at q; cases q
  have ne12 : l2 ≠ l1 := fun e => has h1 (e ▸ f2)
  have ne13 : l3 ≠ l1 := fun e => by obtain ⟨o, q, _⟩ := h1; have := g2.keep _ _ q; rw [← e, f3] at this; cases this
  have ne14 : l4 ≠ l1 := fun e => by obtain ⟨o, q, _⟩ := h1; have := (g2.trans g3).keep _ _ q; rw [← e, f4] at this; cases this
  have ne23 : l3 ≠ l2 := fun e => has h2 (e ▸ f3)
  have ne24 : l4 ≠ l2 := fun e => by obtain ⟨o, q, _⟩ := h2; have := g3.keep _ _ q; rw [← e, f4] at this; cases this
  have ne34 : l4 ≠ l3 := fun e => has h3 (e ▸ f4)
  have nN : ∀ {a : Addr} {s' : Shared} {N' : Lg}, Gr s' N' { s4 with heap := h' } N4 → LstAt s'.heap a ([] : List Value).toArray → (∀ o, ¬ N' a o) → ∀ o, ¬ N4 a o := fun g ⟨o, e, r⟩ hn => not_new g e hn
  have fr : ∀ {a : Addr}, s.heap.get? a = none → (∀ p ∈ B.X, p.1 ≠ a) ∧ B.s₀.heap.get? a = none ∧ Av env { s4 with heap := h' } cx a := fun h0 => fresh_list F ga h0
  have i1 := fr f1
  have i2 := fr (none_of_keep g1.keep f2)
  have i3 := fr (none_of_keep g12.keep f3)
  have i4 := fr (none_of_keep g13.keep f4)
  have m1 := nN (((g2.trans g3).trans g4).trans gz) h1 n1
  have m2 := nN ((g3.trans g4).trans gz) h2 n2
  have m3 := nN (g4.trans gz) h3 n3
  have m4 := nN gz h4 n4
  show wpAny _ A (do holding [_, _, _] (assign (.Name x1 p1) env _); do holding [_, _] (assign (.Name x2 p2) env _); do holding [_] (assign (.Name x3 p3) env _); do holding [] (assign (.Name x4 p4) env _); pure ()) _ _ _
  refine wpAny_bind (wpAny_holding (wpAny_assign_Name (F5.storeM' a2 a1 a3 L1 .nil i1.2.1 m1 i1.1 i1.2.2 fun s6 F6 hl6 av6 => ?_)))
  refine wpAny_bind (wpAny_holding (wpAny_assign_Name (F6.storeM' b2 b1 b3 (hl6 _ _ L2) .nil i2.2.1 m2 i2.1 (av6 _ ne12 i2.2.2) fun s7 F7 hl7 av7 => ?_)))
  refine wpAny_bind (wpAny_holding (wpAny_assign_Name (F7.storeM' d2 d1 d3 (hl7 _ _ (hl6 _ _ L3)) .nil i3.2.1 m3 i3.1 (av7 _ ne23 (av6 _ ne13 i3.2.2)) fun s8 F8 hl8 av8 => ?_)))
  exact wpAny_bind (wpAny_holding (wpAny_assign_Name (F8.storeM' e2 e1 e3 (hl8 _ _ (hl7 _ _ (hl6 _ _ L4))) .nil i4.2.1 m4 i4.1 (av8 _ ne34 (av7 _ ne24 (av6 _ ne14 i4.2.2))) fun s9 F9 _ _ => wpAny_pure (k s9 N4 F9))))
theorem EvTX.cmpL {l r : Expr} {op : CmpOp} {p : Pos} {d1 d2 : D} {b : Bool} (hl : EvR G n sc cx W l d1) (hr : Ev G n sc cx r d2) (ho : Cm2 G n op d1 d2 b) (hm : behindInMarks op r = false := by rfl) : EvTX G n sc cx W (.Compare l [op] [r] p) b := by
  refine ⟨fun A env s N X rm z hx hw Q E k => ?_⟩
  with_reducible refine wpAny_isTrue_Compare1 (hl.go A env s N X rm z hx hw _ _ fun v s1 N1 g1 r1 => (hr.go A env s1 N1 rm (z.gr g1)).go _ _ fun v2 s2 N2 g2 r2 => ?_) hm
  exact (ho.go A s2 N2 _ _ rm ((z.gr g1).gr g2).toOk (r1.mono g2.le) r2).go _ _ fun s3 N3 g3 => wpAny_truthy_bool (k _ _ ((g1.trans g2).trans g3))
end
end Mine
end
section
set_option tactic.hygienic false
open PySem PySem.W PyProof.Rows
namespace Mine
section
variable {G : Gs} {n : Nat} {A : Around} {sc : Scope} {on : List Str} {cx cx0 : Cx} {env : Env} {s : Shared} {N N₁ : Lg} {W W' : Wd} {X Y : Xs} {s₀ : Shared}
variable {Q : Flow → Shared → Prop} {E : Value → Shared → Prop} {rest : List Stmt}
theorem appendX {x : Str} {e : Expr} {p p1 p2 p3 : Pos} {ds : List D} {d : D} {cx' : Cx} (w : WX W N₁ X Y) (F : Fs G sc on ⟨X ++ Y, s₀, N₁⟩ cx env s N) (rm : Rm A n) (hsub : ∀ q ∈ cx0, q ∈ cx) (he : EvX G n sc cx0 W e W' d) (hin : ∀ q ∈ ((x, Ent.lst ds) :: cx'), q ∈ cx) (hx : (cx'.all fun p => p.1 != x) = true) (hsz : ds.length ≤ sizeLine)
    (k : ∀ s' N' X', WX W' N' X' Y → AllX X X' → Bse.Le ⟨X ++ Y, s₀, N₁⟩ ⟨X' ++ Y, s₀, N'⟩ → Fs G sc on ⟨X' ++ Y, s₀, N'⟩ ((x, .lst (ds ++ [d])) :: cx') env s' N' → Wp G A (execs rest env) Q E s')
    (hst : ∀ env, starEach [e] env = (false, eval e env) :: starEach [] env := by intro _; rfl)
    (ht : ∀ env, ((((backTo p2 (starEach [e] env)).all fun x => !x.fst) && (backToKw p2 (keywordEach [] env)).all fun x => x.fst.isSome) && decide (([e].length + ([] : List Keyword).length + if ([] : List Keyword).isEmpty = true then 0 else 1) < 30)) = true := by intro _; rfl)
    (hl : (p1.endLine == p2.line) = true := by rfl)
    (hw : ∀ env, EnvOk sc env → swapsWith (.Call (.Attribute (.Name x p) "append" p1) [e] [] p2) none p3.line env = Pure.pure false := by intro _ _; rfl) :
    Wp G A (execs (.Expr (.Call (.Attribute (.Name x p) "append" p1) [e] [] p2) p3 :: rest) env) Q E s := by
  have hx' : ∀ p ∈ cx', p.1 ≠ x := fun p hp => by simpa using List.all_eq_true.mp hx p hp
  refine wseq ⟨?_⟩
  have hi : interactive env = false := by unfold interactive; rw [F.fk]; rfl
  with_reducible refine wpAny_Expr_any ?_ hi (hw env F.envOk)
  obtain ⟨al, g1, g2⟩ := F.lists
  obtain ⟨ws, i1, i2, i3, i4⟩ := g1 x ds (hin _ (.head _))
  have hb : attributeBase (.Name x p) "append" env (eval (.Name x p) env) = eval (.Name x p) env := rfl
  with_reducible refine wpAny_Call_method_lateS hb (ht env) hl (i1.name F.fk ?_)
  obtain ⟨o, i2a, i2b, nn, i2c⟩ := i2
  refine ⟨"list", "list.append", PySem.F.plainAttrs_list, slot_list_append, type_list_append, ⟨o, i2a, i2b.1⟩, fun a ea => by cases ea; exact ⟨o, i2a, i2b.2⟩, ?_⟩
  with_reducible refine PyProof.Rows.callWith_method1 ?_ (hst env) (by with_unfolding_all rfl)
  with_reducible refine args_cons (he.go A env s N X rm (F.sub hsub).toVw (w.hx F) (w.now F) _ _ fun v s1 N1 X1 gx hw1 r1 => args_nil ?_) (hst env)
  obtain ⟨w1, a1, l1, F1⟩ := w.step F gx hw1
  have F1' := F1.sub hin
  have hsee1 : Sees s1.heap env x (.ref (al x)) := by
    have hxa : ∀ p ∈ X, p.1 ≠ env.locals := fun p hp => (F.ext p (List.mem_append_left _ hp)).2.2.1
    obtain ⟨hn, z⟩ := i1
    refine ⟨hn, ?_⟩
    rcases z with ⟨k1, m, ⟨o, es, ep, e1, e2, e3⟩, e4⟩ | ⟨k1, c, l, o, e1, e2⟩
    · exact .inl ⟨k1, m, ⟨o, es, ep, gx.keep _ _ hxa e1, e2, e3⟩, e4⟩
    · refine .inr ⟨k1, c, l, o, gx.keep _ _ (fun p hp e => ?_) e1, e2⟩
      have := (F.ext p (List.mem_append_left _ hp)).1
      rw [e, e1] at this
      have h3 := w.nc p hp (some (.ref (al x)))
      cases this
      exact h3 e2
  obtain ⟨al1, j1, j2⟩ := F1'.lists
  obtain ⟨ws1, k1, ⟨o1, k2a, k2b, nn1, k2c⟩, k3, k4⟩ := j1 x ds (.head _)
  have hal : al1 x = al x := by have := k1.uniq hsee1; injection this
  rw [hal] at k2a
  refine append_lst (by simp only [List.size_toArray, k3.length]; exact hsz) ⟨o1, k2a, k2b, nn1, k2c⟩ fun h' hl' hs' => ?_
  refine k { s1 with heap := h' } N1 X1 w1 a1 l1 (F1'.setL (vs := ws1 ++ [_]) (tk := s1.toks) hx' hsee1 ?_ (k3.append (.one r1)) hs')
  simpa using hl'
end
end Mine
end
section
set_option tactic.hygienic false
open PySem PySem.W PySem.W.X PyProof.Rows
set_option maxRecDepth 100000
namespace Mine
noncomputable def stA (i j : Nat) : Stmt := match (match i with
  | 0 => PySem.Challenge.pw_rl0073_01.main.body
  | i => match PySem.Challenge.pw_rl0073_01.main.body.drop i with
    | .ClassDef _ _ _ b _ _ _ _ _ _ _ :: _ => b
    | _ => []).drop j with
  | s :: _ => s
  | [] => .Pass ⟨0, 0, 0, 0⟩
noncomputable def fnO (s : Stmt) (q m : Str) (t c : Nat) : Obj := match s with
  | .FunctionDef n ps b _ _ _ sc _ _ _ => { cls := .type "function", data := .func { name := n, qualname := q, params := ps, body := .stmts b, scope := sc, globals := 3, closure := [], defaults := .none, kwdefaults := .none, pyModule := .str m t, code := .ref c } }
  | _ => { cls := .none, data := .plain }
noncomputable def entO (P : Params) (x : Str) (t : Nat) (v : Value) : DictEntry := { hash := PyData.keyHash P x, key := .str x t, val := v }
noncomputable def clsO (x : Str) (a ns t u : Nat) : Obj := { cls := .type "type", data := .cls { name := x, bases := [.type "object"], mro := [.ref a, .type "object"], ns := ns, qualname := x }, slots := #[none, none, some (.str x t), some (.str x u), some (.builtin "object.__new__"), some (.bool true)] }
noncomputable def heapK (P : Params) : Frag :=
   [(2, { cls := .none, data := .dict #[] 0 }),
    (3, { cls := .type "dict", data := .dict #[entO P "__name__" 165 (.str "law_rl0073_01" 376), entO P "__doc__" 166 .none, entO P "__package__" 167 .none, entO P "__loader__" 168 (.builtin "__main__.__loader__#opaque"), entO P "__spec__" 169 .none, entO P "__annotations__" 170 (.ref 6), entO P "__builtins__" 171 (.ref 4), entO P "__file__" 173 (.str "/claim/cut.py" 172), entO P "__cached__" 174 .none,
      entO P "_wall" 193 (.ref 21), entO P "_strcoll" 203 (.ref 28), entO P "_strip_padding" 213 (.ref 35), entO P "_netrclex" 273 (.ref 73), entO P "Whitespace" 375 (.ref 139), entO P "_law_stream" 386 (.ref 150), entO P "_law_word" 392 (.ref 155), entO P "_law_written" 398 (.ref 160), entO P "_law_columns" 409 (.ref 167), entO P "_law_under" 415 (.ref 172), entO P "_law_longest" 424 (.ref 179), entO P "_law_lost" 430 (.ref 184), entO P "_law_grown" 436 (.ref 189), entO P "law" 442 (.ref 194)] 23 }),
    (72, { cls := .type "dict", data := .dict #[entO P "__module__" 223 (.str "cpy313.netrc" 214), entO P "__firstlineno__" 227 (.int 18 226), entO P "__init__" 235 (.ref 49), entO P "_read_char" 243 (.ref 56), entO P "get_token" 253 (.ref 63), entO P "push_token" 261 (.ref 70), entO P "__static_attributes__" 266 (.ref 71), entO P "__dict__" 268 (.ref 74), entO P "__weakref__" 270 (.ref 75), entO P "__doc__" 271 .none] 4 }),
    (73, clsO "_netrclex" 73 72 216 224),
    (138, { cls := .type "dict", data := .dict #[entO P "__module__" 283 (.str "cpy313.tabnanny" 274), entO P "__firstlineno__" 287 (.int 62 286), entO P "S" 291 (.str " " 289), entO P "T" 292 (.str "\t" 290), entO P "__init__" 307 (.ref 94), entO P "longest_run_of_spaces" 316 (.ref 101), entO P "indent_level" 328 (.ref 108), entO P "equal" 336 (.ref 115), entO P "not_equal_witness" 344 (.ref 122), entO P "less" 354 (.ref 129), entO P "not_less_witness" 362 (.ref 136), entO P "__static_attributes__" 368 (.ref 137), entO P "__dict__" 370 (.ref 140), entO P "__weakref__" 372 (.ref 141), entO P "__doc__" 373 .none] 4 }),
    (139, clsO "Whitespace" 139 138 276 284),
    (149, { cls := .type "code", data := .fields #[.str "_law_stream" 378, .str "_law_stream" 379, .str "/claim/cut.py" 380, .int 119 0, .int 1 0, .int 0 0, .int 0 0, .int 3 0, .ref 144, .bool true, .int 181 0, .ref 145, .none, .ref 146, .ref 147, .ref 148, .int 384 0, .int 119 0, .str "/claim/cut.py" 385] }),
    (28, fnO (stA 0 2) "_strcoll" "cpy313.locale" 194 27),
    (35, fnO (stA 0 3) "_strip_padding" "cpy313.locale" 194 34),
    (150, fnO (stA 0 9) "_law_stream" "law_rl0073_01" 376 149),
    (155, fnO (stA 0 10) "_law_word" "law_rl0073_01" 376 154),
    (160, fnO (stA 0 11) "_law_written" "law_rl0073_01" 376 159),
    (167, fnO (stA 0 12) "_law_columns" "law_rl0073_01" 376 166),
    (172, fnO (stA 0 13) "_law_under" "law_rl0073_01" 376 171),
    (179, fnO (stA 0 14) "_law_longest" "law_rl0073_01" 376 178),
    (184, fnO (stA 0 15) "_law_lost" "law_rl0073_01" 376 183),
    (189, fnO (stA 0 16) "_law_grown" "law_rl0073_01" 376 188),
    (194, fnO (stA 0 17) "law" "law_rl0073_01" 376 193),
    (49, fnO (stA 5 0) "_netrclex.__init__" "cpy313.netrc" 214 48),
    (56, fnO (stA 5 1) "_netrclex._read_char" "cpy313.netrc" 214 55),
    (63, fnO (stA 5 2) "_netrclex.get_token" "cpy313.netrc" 214 62),
    (70, fnO (stA 5 3) "_netrclex.push_token" "cpy313.netrc" 214 69),
    (94, fnO (stA 7 1) "Whitespace.__init__" "cpy313.tabnanny" 274 93),
    (101, fnO (stA 7 2) "Whitespace.longest_run_of_spaces" "cpy313.tabnanny" 274 100),
    (108, fnO (stA 7 3) "Whitespace.indent_level" "cpy313.tabnanny" 274 107),
    (129, fnO (stA 7 6) "Whitespace.less" "cpy313.tabnanny" 274 128)]
noncomputable def codeNm (h : Heap) (c : Addr) : Option Str := match h.get? c with
  | some ⟨_, _, .fields vs, _⟩ => (match (vs[1]? : Option Value) with
    | some (.str q _) => some q
    | _ => none)
  | _ => none
noncomputable def codesL : List (Addr × Str) := [(27, "_strcoll"), (34, "_strip_padding"), (48, "_netrclex.__init__"), (55, "_netrclex._read_char"), (62, "_netrclex.get_token"), (69, "_netrclex.push_token"), (93, "Whitespace.__init__"), (100, "Whitespace.longest_run_of_spaces"), (107, "Whitespace.indent_level"), (128, "Whitespace.less"), (149, "_law_stream"), (154, "_law_word"), (159, "_law_written"), (166, "_law_columns"), (171, "_law_under"), (178, "_law_longest"), (183, "_law_lost"), (188, "_law_grown"), (193, "law")]
noncomputable def keysL : List Addr := [2, 3, 72, 73, 138, 139, 149, 28, 35, 150, 155, 160, 167, 172, 179, 184, 189, 194, 49, 56, 63, 70, 94, 101, 108, 129]
theorem codeNm_keeps {h h' : Heap} {c : Addr} {q : Str} (e : codeNm h c = some q) (k : ∀ b o, h.get? b = some o → h'.get? b = some o) : codeNm h' c = some q := by
  unfold codeNm at e ⊢
  cases ho : h.get? c with
  | none => rw [ho] at e; cases e
  | some o => rw [k _ _ ho]; rw [ho] at e; exact e
noncomputable def hookH : Hook where
  α := (List (Option Obj) × Option Obj) × List (Option Str)
  obs := fun s => ((keysL.map s.heap.get?, s.heap.get? 145), codesL.map fun p => codeNm s.heap p.1)
  val := fun w => (((heapK w.params).map fun p => some p.2, some (tabObj #[])), codesL.map fun p => some p.2)
  says := fun w h => InK heapK w h ∧ h.get? 145 = some (tabObj #[]) ∧ ∀ p ∈ codesL, codeNm h p.1 = some p.2
  of := fun w s x => ⟨InK.of (K := heapK) (fun P => by rfl) w s (Prod.mk.inj (Prod.mk.inj x).1).1, (Prod.mk.inj (Prod.mk.inj x).1).2, List.map_inj_left.mp (Prod.mk.inj x).2⟩
  keeps := fun w h h' x k => ⟨InK.keeps w h h' x.1 k, k _ _ x.2.1, fun p hp => codeNm_keeps (x.2.2 p hp) k⟩
noncomputable def viewQ : Program := { PySem.Challenge.pw_rl0073_01 with main := { PySem.Challenge.pw_rl0073_01.main with body := PySem.Challenge.pw_rl0073_01.main.body.drop 17 } }
noncomputable def looseL : List Str := ["_wall", "_strcoll", "_strip_padding", "_netrclex", "Whitespace", "_law_stream", "_law_word", "_law_written", "_law_columns", "_law_under", "_law_longest", "_law_lost", "_law_grown"]
noncomputable abbrev XtL (s : Shared) : Bool := xlAt viewQ [] s && recOk (RowW.records PySem.Challenge.rw_rl0073_01.row.toRowW) s
theorem opH : opening PySem.Challenge.rw_rl0073_01.row.toRowW.prog = plainProg PySem.Challenge.rw_rl0073_01.row.toRowW.prog.main.scope.names := by kernel_rfl
theorem fenH (s : Shared) : fenceModules? PySem.Challenge.rw_rl0073_01.row.toRowW.prog s = some s := by kernel_rfl
noncomputable def topQ (w : World) (os : OsState) : Prop := (topFrom treeTable PySem.Challenge.rw_rl0073_01.row.toRowW.prog w 2512 { heap := boot_heap w.params, gens := #[], drawn := boot_drawn, toks := boot_toks, os := os }).map (fun s => (openSeen viewQ looseL (importedModules PySem.Challenge.rw_rl0073_01.row.toRowW.prog.main.body) XtL true s, hookH.obs s)) = some (openGood viewQ looseL, hookH.val w)
theorem topF (w : World) (os : OsState) : topQ (w.withFollow "special-get-raises" false) os := by
  unfold topQ topFrom
  rw [PySem.W.Fast.te14082659384304107361, PySem.W.Fast.te14364793385576792824, PySem.W.Fast.te4187177175401517315]
  kernel_rfl
theorem topT (w : World) (os : OsState) : topQ (w.withFollow "special-get-raises" true) os := by
  unfold topQ topFrom
  rw [PySem.W.Fast.te14082659384304107361, PySem.W.Fast.te14364793385576792824, PySem.W.Fast.te4187177175401517315]
  kernel_rfl
theorem topH (w : World) (os : OsState) : topQ w os := byRow2 "special-get-raises" (P := fun w => topQ w os) (fun w => topF w os) (fun w => topT w os) w
theorem leftH : LeftO PySem.Challenge.rw_rl0073_01.row.toRowW.prog viewQ looseL XtL hookH.obs hookH.val 2512 := fun w => by
  obtain ⟨s₀, hs, hv⟩ := Option.map_eq_some_iff.mp (boot_open (N := 2512) opH (by decide) fenH w)
  obtain ⟨h1, h2, h3, h4, os⟩ := s₀
  simp only [Prod.mk.injEq] at hv
  obtain ⟨rfl, rfl, rfl, rfl⟩ := hv
  have h := topH w os
  unfold topQ at h
  unfold openEnds
  rw [hs, Option.bind_some]
  exact h
theorem saidRes : namesResolve PySem.Challenge.rw_rl0073_01.row.prog = true := by
  rw [PySem.W.Fast.te8377067652309620493]
  kernel_rfl
theorem saidRoad : noRoadLSs { strict := !(importedModules PySem.Challenge.rw_rl0073_01.row.prog.main.body).all cThrough.contains, foot := none, bare := (["vars", "dir", "locals"] : List Str).filter (readsOut PySem.Challenge.rw_rl0073_01.row.prog PySem.Challenge.rw_rl0073_01.row.prog.main.body) } PySem.Challenge.rw_rl0073_01.row.prog.main.body = true := by
  rw [PySem.W.Fast.te8326940854005059898]
  kernel_rfl
theorem saidMeet : (namesMeet PySem.Challenge.rw_rl0073_01.row.prog PySem.Challenge.rw_rl0073_01.row.prog.main.body fun _ n => attrL n) = true := by
  rw [PySem.W.Fast.te17119622794617984870]
  kernel_rfl
theorem saidLook : looksOpen PySem.Challenge.rw_rl0073_01.row.prog = true := by
  unfold looksOpen
  refine look_both (look_both (look_both (look_both ?_ saidRes) ?_) saidRoad) saidMeet
  · kernel_rfl
  · kernel_rfl
theorem saidRow : PySem.Challenge.rw_rl0073_01.row.wellSaid = true := by
  unfold OpenRow.wellSaid OpenRow.partSaid
  rw [saidLook]
  kernel_rfl
theorem saidH : PySem.Challenge.rw_rl0073_01.wellSaid = true := by
  unfold OpenLaw.wellSaid
  rw [saidRow]
  kernel_rfl
theorem chainH : (chainsOk viewQ && opensWell PySem.Challenge.rw_rl0073_01.row.prog && (frees PySem.Challenge.rw_rl0073_01.row.toRowW && PySem.Challenge.rw_rl0073_01.row.within.isEmpty)) = true := by kernel_rfl
theorem headH {d : DefRec} (hd : defOf viewQ "law" = some (d, [])) (hp : PySem.Challenge.rw_rl0073_01.row.prog.theDef "law" = some (d.params, d.body, d.scope)) (hk : kwWritten? d.params.kwonlyargs d.params.kw_defaults = some [])
    (walk : WalkO viewQ looseL (XL viewQ []) hookH.says PySem.Challenge.rw_rl0073_01.row.toRowW d [] fun f vs => call f vs) : PySem.Challenge.rw_rl0073_01.Holds :=
  holds_law saidH fun said => holds_open (r := PySem.Challenge.rw_rl0073_01.row) (q := viewQ) (loose := looseL) (Xt := XtL) leftH hookH.of hookH.keeps (fun s e => xl_of s (Bool.and_eq_true_iff.mp e).1) XL.keeps hd hp hk (fun s e => recFacts_of (Bool.and_eq_true_iff.mp e).2) rfl said chainH ⟨rfl, rfl, rfl, rfl, rfl, by decide +kernel⟩ ⟨[.list []], by decide +kernel, by decide +kernel⟩ walk
end Mine
end
section
set_option tactic.hygienic false
open PySem PySem.W PyProof.Rows
namespace Mine
noncomputable def fdOf (K : Frag) (a : Addr) : FuncData := match K.lookup a with
  | some ⟨_, _, .func fd, _⟩ => fd
  | _ => default
noncomputable def bodyOf (fd : FuncData) : List Stmt := match fd.body with
  | .stmts b => b
  | _ => []
noncomputable abbrev KP (P : Params) : Frag := heapK P
noncomputable abbrev fdP (P : Params) (a : Addr) : FuncData := fdOf (heapK P) a

structure Tx (G : Gs) (P : Params) : Prop where
  frag : G.K = KP P
  fn : ∀ a ∈ [28, 35, 49, 56, 63, 70, 94, 101, 108, 129, 150, 155, 160, 167, 172, 179, 184, 189, 194], FnAt G.base a (fdP P a)
  strcoll : G.mg "_strcoll" = some (.ref 28)
  strip : G.mg "_strip_padding" = some (.ref 35)
  netrclex : G.mg "_netrclex" = some (.ref 73)
  Whitespace : G.mg "Whitespace" = some (.ref 139)
  stream : G.mg "_law_stream" = some (.ref 150)
  word : G.mg "_law_word" = some (.ref 155)
  written : G.mg "_law_written" = some (.ref 160)
  columns : G.mg "_law_columns" = some (.ref 167)
  under : G.mg "_law_under" = some (.ref 172)
  longest : G.mg "_law_longest" = some (.ref 179)
  lost : G.mg "_law_lost" = some (.ref 184)
  grown : G.mg "_law_grown" = some (.ref 189)
  bi : ∀ x v, (x, v) ∈ ([("len", .builtin "len"), ("range", .type "range"), ("zip", .type "zip"), ("enumerate", .type "enumerate"), ("max", .builtin "max"), ("min", .builtin "min"), ("sum", .builtin "sum"), ("ord", .builtin "ord"), ("list", .type "list"), ("tuple", .type "tuple"), ("sorted", .builtin "sorted"), ("iter", .builtin "iter"), ("IndexError", .type "IndexError")] : List (Str × Value)) → G.mg x = none ∧ G.mb x = some v

section
variable {G : Gs} {P : Params}
set_option maxRecDepth 10000
noncomputable def cmpS (a b : Str) : Int := b2i (decide (b.cps.toList < a.cps.toList)) - b2i (decide (a.cps.toList < b.cps.toList))
theorem body_strcoll {a b : Str} : Body G 0 (fdP P 28) (bodyOf (fdP P 28)) (cxOf ["a", "b"] [.str a, .str b]) (.int (cmpS a b)) := by
  refine ⟨fun A env B s N rm F Q E k => ?_⟩
  refine ret_ F rm (Ev.bin (Ev.cmp (Ev.name (.head _)) (Ev.name (.tail _ (.head _))) cm_gtS) (Ev.cmp (Ev.name (.head _)) (Ev.name (.tail _ (.head _))) cm_ltS) op_subB) ?_
  intro v s' N' F' r
  exact k v s' N' _ _ _ _ (Bse.Le.refl _) F' r
theorem fn_strcoll (T : Tx G P) {a b : Str} : Fn G 1 (.ref 28) [.str a, .str b] (.int (cmpS a b)) := by
  refine Fn.of (ps := ["a", "b"]) (T.fn 28 (by decide)) rfl (vs2 fun x y => by kernel_rfl) rfl rfl rfl (by kernel_rfl) rfl rfl rfl body_strcoll
end
end Mine
end
section
set_option tactic.hygienic false
open PySem PySem.W PyProof.Rows
namespace Mine
section
variable {G : Gs} {P : Params}
set_option maxRecDepth 10000
noncomputable def longestS (ls : List Str) : Str := ls.foldl (fun a l => if 0 < cmpS l a then l else a) ""
theorem nm_of {sc : Scope} {x : Str} {v : Value} (h1 : okName x = true) (h2 : sc.names.lookup x = some .globalImplicit) (h3 : G.mg x = some v) : Nm G sc x v := ⟨h1, h2, .inl h3⟩
theorem nm_bi (T : Tx G P) {sc : Scope} {x : Str} {v : Value} (h1 : okName x = true) (h2 : sc.names.lookup x = some .globalImplicit) (h3 : (x, v) ∈ ([("len", .builtin "len"), ("range", .type "range"), ("zip", .type "zip"), ("enumerate", .type "enumerate"), ("max", .builtin "max"), ("min", .builtin "min"), ("sum", .builtin "sum"), ("ord", .builtin "ord"), ("list", .type "list"), ("tuple", .type "tuple"), ("sorted", .builtin "sorted"), ("iter", .builtin "iter"), ("IndexError", .type "IndexError")] : List (Str × Value))) : Nm G sc x v := ⟨h1, h2, .inr (T.bi x v h3)⟩
theorem body_longest (T : Tx G P) {ls : List Str} : Body G 1 (fdP P 179) (bodyOf (fdP P 179)) (cxOf ["labels"] [.list (ls.map .str)]) (.str (longestS ls)) := by
  refine ⟨fun A env B s N rm F Q E k => ?_⟩
  refine asg (x := "longest") F rm Ev.str (by kernel_rfl) fun s N F => ?_
  refine for_ (items := ls.map .str) (fun i (a : Str) => a = (ls.take i).foldl (fun a l => if 0 < cmpS l a then l else a) "") (fun a => [("longest", .imm (.str a)), ("labels", .imm (.list (ls.map .str)))]) (fun d => [("label", .imm d)]) "" F rm (EvI.list (Ev.name (.tail _ (.head _)))) (fun q h => h) rfl ?_ ?_ ?_
  · intro i σ d _ _
    exact Tgt.name (by kernel_rfl)
  · intro B' i a d s N E' hB hP hd F
    obtain ⟨l, hl, rfl⟩ : ∃ l, ls[i]? = some l ∧ d = .str l := by
      rw [List.getElem?_map] at hd
      obtain ⟨l, h1, h2⟩ := Option.map_eq_some_iff.mp hd
      exact ⟨l, h1, h2.symm⟩
    have hstep : (ls.take (i + 1)).foldl (fun a l => if 0 < cmpS l a then l else a) "" = if 0 < cmpS l a then l else a := by
      rw [List.take_add_one, hl, Option.toList_some, List.foldl_append, ← hP]; rfl
    refine if_ F rm (EvT.cmp (Ev.call (nm_of (by kernel_rfl) (by kernel_rfl) T.strcoll) (T.fn 28 (by decide)) (EvL.cons (Ev.name (.head _)) (EvL.cons (Ev.name (.tail _ (.head _))) .nil)) (fn_strcoll T)) Ev.int cm_gt) ?_ ?_
    · intro hb s N F
      refine asgR F rm (cx' := [("label", .imm (.str l)), ("labels", .imm (.list (ls.map .str)))]) (Ev.name (.head _)) (by intro q h; simp at h ⊢; rcases h with h | h <;> simp [h]) (by kernel_rfl) fun s N F => ?_
      refine wnil (wnil ?_)
      refine ⟨l, N, ?_, F.sub (by intro q h; simp at h ⊢; rcases h with h | h <;> simp [h])⟩
      rw [hstep, if_pos (by simpa using hb)]
    · intro hb s N F
      refine wnil (wnil ?_)
      refine ⟨a, N, ?_, F.sub (by intro q h; exact .tail _ h)⟩
      rw [hstep, if_neg (by simpa using hb)]
  · intro a s' N' hP F
    refine ret_ F rm (Ev.name (.head _)) fun v s N F r => ?_
    have : a = longestS ls := by rw [hP, List.length_map, List.take_length]; rfl
    subst this
    exact k v s N _ _ _ _ (Bse.Le.refl _) F r
end
end Mine
end
section
set_option tactic.hygienic false
open PySem PySem.W PyProof.Rows
namespace Mine
noncomputable def blanks (m : Nat) : Str := ⟨(List.replicate m 32).toArray⟩
noncomputable def xblanks (m : Nat) : Str := ⟨(120 :: List.replicate m 32).toArray⟩
theorem charAt_nat (x : Str) {i : Nat} (h : i < x.cps.size) : Txt.charAt x (i : Int) = x.cps[i]? := by
  unfold Txt.charAt
  rw [seqIdx (by lia) (by show (i : Int).toNat < x.cps.size; lia)]
  simp
theorem charAt_blanks {m i : Nat} (h : i < m) : Txt.charAt (blanks m) (i : Int) = some 32 := by
  rw [charAt_nat _ (by simp [blanks, h])]
  simp [blanks, h]
theorem charAt_xblanks {m i : Nat} (h0 : 0 < i) (h : i ≤ m) : Txt.charAt (xblanks m) (i : Int) = some 32 := by
  rw [charAt_nat _ (by simp [xblanks]; lia)]
  obtain ⟨j, rfl⟩ : ∃ j, i = j + 1 := ⟨i - 1, by lia⟩
  simp only [xblanks, List.getElem?_toArray, List.getElem?_cons_succ]
  rw [List.getElem?_replicate, if_pos (by lia)]
theorem charAt_x {m : Nat} : Txt.charAt (xblanks m) 0 = some 120 := by
  have := charAt_nat (xblanks m) (i := 0) (by simp [xblanks])
  rw [show ((0 : Nat) : Int) = 0 from rfl] at this
  rw [this]; simp [xblanks]
theorem fits_nat {i : Nat} (h : i < 1000) : fitsSsize (i : Int) = true := by simp [fitsSsize]; lia
theorem blank_eq : ((⟨#[32]⟩ : Str) == (" " : Str)) = true := by decide +kernel
theorem x_ne : ((⟨#[120]⟩ : Str) == (" " : Str)) = false := by decide +kernel
section
variable {G : Gs} {P : Params}
set_option maxRecDepth 10000

theorem body_strip (T : Tx G P) {m k : Nat} (hm : m ≤ 2) (hk : k ≤ m) : Body G 1 (fdP P 35) (bodyOf (fdP P 35)) (cxOf ["s", "amount"] [.str (blanks m), .int k]) (.str (blanks (m - k))) := by
  refine ⟨fun A env B s N rm F Q E q => ?_⟩
  refine asg (x := "lpos") F rm Ev.int (by kernel_rfl) fun s N F => ?_
  refine while_ (ι := { i : Nat // i ≤ k }) (fun i => [("lpos", .imm (.int i.1)), ("s", .imm (.str (blanks m))), ("amount", .imm (.int ((k : Int) - i.1)))]) (fun i => ((k : Int) - i.1 != 0) && true) (fun i => k - i.1) ⟨0, Nat.zero_le _⟩ (F.sub ?_) rm ?_ ?_ ?_
  · intro q h; simpa [cxOf] using h
  · intro ⟨i, hi⟩
    refine EvT.and2 (EvT.val (Ev.name (.tail _ (.tail _ (.head _)))) tr_int) fun hb => ?_
    have hlt : i < k := by simp at hb; lia
    exact EvT.eq (EvT.cmp (Ev.item (Ev.name (.tail _ (.head _))) (Ev.name (.head _)) (it_str (fits_nat (i := i) (by lia)) (charAt_blanks (i := i) (by lia)))) Ev.str cm_eqS) blank_eq
  · intro ⟨i, hi⟩ s N Q' E' hb F h
    have hlt : i < k := by simp at hb; lia
    refine aug F rm (.head _) Ev.int ip_add (cx' := [("s", .imm (.str (blanks m))), ("amount", .imm (.int ((k : Int) - i)))]) (by intro q h; exact .tail _ h) (by kernel_rfl) fun s N F => ?_
    refine aug F rm (.tail _ (.tail _ (.head _))) Ev.int ip_sub (cx' := [("lpos", .imm (.int ((i : Int) + 1))), ("s", .imm (.str (blanks m)))]) (by intro q h; simp at h ⊢; rcases h with h | h <;> simp [h]) (by kernel_rfl) fun s N F => ?_
    refine wnil (h ⟨i + 1, hlt⟩ s N (by show k - (i + 1) < k - i; lia) (F.sub ?_))
    intro q hq
    simp at hq ⊢
    rcases hq with hq | hq | hq
    · right; left; rw [hq]
    · right; right; rw [hq]
    · left; rw [hq]; congr 3; lia
  · intro ⟨i, hi⟩ s N hb F
    have hik : i = k := by simp at hb; lia
    subst hik
    refine asg (x := "rpos") F rm (Ev.bin (Ev.callB (nm_bi T (by kernel_rfl) (by kernel_rfl) (.head _)) (EvL.cons (Ev.name (.tail _ (.head _))) .nil) (fn_lenS (by simp [blanks, Str.length, sizeLine]; lia))) Ev.int op_sub) (by kernel_rfl) fun s N F => ?_
    refine while_ (ι := Unit) (fun _ => ([("rpos", .imm (.int (((blanks m).length : Int) - 1))), ("lpos", .imm (.int i)), ("s", .imm (.str (blanks m))), ("amount", .imm (.int ((i : Int) - i)))] : Cx)) (fun _ => false) (fun _ => 0) () F rm ?_ ?_ ?_
    · intro _
      exact EvT.eq (EvT.and2 (c := true) (EvT.val (Ev.name (.tail _ (.tail _ (.tail _ (.head _))))) tr_int) (fun hb => by simp at hb)) (by simp)
    · intro _ s N Q' E' hb; cases hb
    · intro _ s N _ F
      refine ret_ F rm (Ev.sliceS (Ev.name (.tail _ (.tail _ (.head _)))) (EvP.int (Ev.name (.tail _ (.head _)))) (EvP.int (Ev.bin (Ev.name (.head _)) Ev.int op_add)) (by simp [blanks, Str.length, sizeLine]; lia)) fun v s' N' F' r => ?_
      have e : Txt.slice (blanks m) (some (i : Int)) (some (((blanks m).length : Int) - 1 + 1)) = blanks (m - i) := by
        rcases (show m = 0 ∨ m = 1 ∨ m = 2 by lia) with rfl | rfl | rfl <;> rcases (show i = 0 ∨ i = 1 ∨ i = 2 by lia) with rfl | rfl | rfl <;> first | lia | decide +kernel
      rw [e] at r
      exact q v s' N' _ _ _ _ (Bse.Le.refl _) F' r
theorem bind35 (vs : List Value) (h : vs.length = 2) : bindArgs (fdP P 35) ⟨vs, []⟩ = pure (([("s" : Str), "amount"]).zip vs) := by
  revert vs
  exact vs2 fun x y => by kernel_rfl
theorem fn_strip (T : Tx G P) {m k : Nat} (hm : m ≤ 2) (hk : k ≤ m) : Fn G 2 (.ref 35) [.str (blanks m), .int k] (.str (blanks (m - k))) :=
  Fn.of (ps := ["s", "amount"]) (T.fn 35 (by decide)) rfl (fun vs h => bind35 vs h) rfl rfl rfl (by kernel_rfl) rfl rfl rfl (body_strip T hm hk)
theorem body_stripx (T : Tx G P) {m k : Nat} (hm : m ≤ 2) (hk : k ≤ m) : Body G 1 (fdP P 35) (bodyOf (fdP P 35)) (cxOf ["s", "amount"] [.str (xblanks m), .int k]) (.str (xblanks (m - k))) := by
  refine ⟨fun A env B s N rm F Q E q => ?_⟩
  refine asg (x := "lpos") F rm Ev.int (by kernel_rfl) fun s N F => ?_
  refine while_ (ι := Unit) (fun _ => ([("lpos", .imm (.int 0)), ("s", .imm (.str (xblanks m))), ("amount", .imm (.int k))] : Cx)) (fun _ => false) (fun _ => 0) () F rm ?_ ?_ ?_
  · intro _
    exact EvT.eq (EvT.and2 (EvT.val (Ev.name (.tail _ (.tail _ (.head _)))) tr_int) fun _ => EvT.cmp (Ev.item (Ev.name (.tail _ (.head _))) (Ev.name (.head _)) (it_str (by decide) charAt_x)) Ev.str cm_eqS) (by rw [x_ne]; simp)
  · intro _ s N Q' E' hb; cases hb
  · intro _ s N _ F
    refine asg (x := "rpos") F rm (Ev.bin (Ev.callB (nm_bi T (by kernel_rfl) (by kernel_rfl) (.head _)) (EvL.cons (Ev.name (.tail _ (.head _))) .nil) (fn_lenS (by simp [xblanks, Str.length, sizeLine]; lia))) Ev.int op_sub) (by kernel_rfl) fun s N F => ?_
    have hlen : (xblanks m).length = m + 1 := by simp [xblanks, Str.length]
    refine while_ (ι := { i : Nat // i ≤ k }) (fun i => [("rpos", .imm (.int ((m : Int) - i.1))), ("lpos", .imm (.int 0)), ("s", .imm (.str (xblanks m))), ("amount", .imm (.int ((k : Int) - i.1)))]) (fun i => ((k : Int) - i.1 != 0) && true) (fun i => k - i.1) ⟨0, Nat.zero_le _⟩ (F.sub ?_) rm ?_ ?_ ?_
    · intro q h
      rw [hlen]
      have e1 : ((m + 1 : Nat) : Int) - 1 = (m : Int) - ((0 : Nat) : Int) := by lia
      have e2 : (k : Int) - ((0 : Nat) : Int) = k := by lia
      rw [e1]
      simpa [e2] using h
    · intro ⟨i, hi⟩
      refine EvT.and2 (EvT.val (Ev.name (.tail _ (.tail _ (.tail _ (.head _))))) tr_int) fun hb => ?_
      have hlt : i < k := by simp at hb; lia
      have e : ((m : Int) - i) = ((m - i : Nat) : Int) := by lia
      refine EvT.eq (EvT.cmp (Ev.item (Ev.name (.tail _ (.tail _ (.head _)))) (Ev.name (.head _)) (it_str (c := 32) ?_ ?_)) Ev.str cm_eqS) blank_eq
      · show fitsSsize ((m : Int) - i) = true
        rw [e]; exact fits_nat (by lia)
      · show Txt.charAt (xblanks m) ((m : Int) - i) = some 32
        rw [e]; exact charAt_xblanks (by lia) (by lia)
    · intro ⟨i, hi⟩ s N Q' E' hb F h
      have hlt : i < k := by simp at hb; lia
      refine aug F rm (.head _) Ev.int ip_sub (cx' := [("lpos", .imm (.int 0)), ("s", .imm (.str (xblanks m))), ("amount", .imm (.int ((k : Int) - i)))]) (by intro q h; exact .tail _ h) (by kernel_rfl) fun s N F => ?_
      refine aug F rm (.tail _ (.tail _ (.tail _ (.head _)))) Ev.int ip_sub (cx' := [("rpos", .imm (.int ((m : Int) - i - 1))), ("lpos", .imm (.int 0)), ("s", .imm (.str (xblanks m)))]) (by intro q h; simp at h ⊢; rcases h with h | h | h <;> simp [h]) (by kernel_rfl) fun s N F => ?_
      refine wnil (h ⟨i + 1, hlt⟩ s N (by show k - (i + 1) < k - i; lia) (F.sub ?_))
      intro q hq
      simp at hq ⊢
      rcases hq with hq | hq | hq | hq
      · right; left; rw [hq]; congr 3; lia
      · right; right; left; rw [hq]
      · right; right; right; rw [hq]
      · left; rw [hq]; congr 3; lia
    · intro ⟨i, hi⟩ s N hb F
      have hik : i = k := by simp at hb; lia
      subst hik
      refine ret_ F rm (Ev.sliceS (Ev.name (.tail _ (.tail _ (.head _)))) (EvP.int (Ev.name (.tail _ (.head _)))) (EvP.int (Ev.bin (Ev.name (.head _)) Ev.int op_add)) (by simp [xblanks, Str.length, sizeLine]; lia)) fun v s' N' F' r => ?_
      have e : Txt.slice (xblanks m) (some (0 : Int)) (some (((m : Int) - i) + 1)) = xblanks (m - i) := by
        rcases (show m = 0 ∨ m = 1 ∨ m = 2 by lia) with rfl | rfl | rfl <;> rcases (show i = 0 ∨ i = 1 ∨ i = 2 by lia) with rfl | rfl | rfl <;> first | lia | decide +kernel
      have r' : Rp N' v (.str (Txt.slice (xblanks m) (some (0 : Int)) (some (((m : Int) - i) + 1)))) := r
      rw [e] at r'
      exact q v s' N' _ _ _ _ (Bse.Le.refl _) F' r'
theorem fn_stripx (T : Tx G P) {m k : Nat} (hm : m ≤ 2) (hk : k ≤ m) : Fn G 2 (.ref 35) [.str (xblanks m), .int k] (.str (xblanks (m - k))) :=
  Fn.of (ps := ["s", "amount"]) (T.fn 35 (by decide)) rfl (fun vs h => bind35 vs h) rfl rfl rfl (by kernel_rfl) rfl rfl rfl (body_stripx T hm hk)
end
end Mine
end
section
set_option tactic.hygienic false
open PySem PySem.W PyProof.Rows
namespace Mine
structure Ws where
  n : Nat
  b : Nat
  nt : Nat
  count : List Nat
noncomputable def Ws.pad (w : Ws) : List Nat := w.count ++ List.replicate (w.b + 1 - w.count.length) 0
noncomputable def Ws.tab (w : Ws) : Ws := ⟨w.n + 1, 0, w.nt + 1, w.pad.set w.b (w.pad.getD w.b 0 + 1)⟩
noncomputable def Ws.blank (w : Ws) : Ws := ⟨w.n + 1, w.b + 1, w.nt, w.count⟩
noncomputable def wsRun : List Nat → Ws → Ws
  | [], w => w
  | c :: r, w => if c = 32 then wsRun r w.blank else if c = 9 then wsRun r w.tab else w
noncomputable def ws0 : Ws := ⟨0, 0, 0, []⟩
noncomputable def intsD (l : List Nat) : List D := l.map fun (k : Nat) => .int (k : Int)
noncomputable def Ws.ent (x : Str) (w : Ws) : List (Str × D) := [("is_simple", .bool (decide (w.count.length ≤ 1))), ("norm", .tuple [.tuple (intsD w.count), .int w.b]), ("nt", .int w.nt), ("n", .int w.n), ("raw", .str x)]
noncomputable def Ws.cx (a : Addr) (x : Str) (w : Ws) : Cx := [("b", .imm (.int w.b)), ("n", .imm (.int w.n)), ("nt", .imm (.int w.nt)), ("count", .lst (intsD w.count)), ("S", .imm (.str " ")), ("T", .imm (.str "\t")), ("self", .imm (.ref a)), ("ws", .imm (.str x))]
theorem Ws.pad_len (w : Ws) : w.pad.length = max w.count.length (w.b + 1) := by
  simp only [Ws.pad, List.length_append, List.length_replicate]; lia
theorem Ws.pad_of (w : Ws) (h : w.b < w.count.length) : w.pad = w.count := by
  unfold Ws.pad; rw [show w.b + 1 - w.count.length = 0 by lia]; simp
theorem intsD_len (l : List Nat) : (intsD l).length = l.length := by simp [intsD]
theorem intsD_flat (l : List Nat) : (intsD l).all D.flat = true := by simp [intsD, D.flat]
theorem sign_eq (c : Nat) (x : Str) (k : Nat) (h : x = ⟨#[k]⟩) : ((⟨#[c]⟩ : Str) == x) = decide (c = k) := by
  subst h
  by_cases e : c = k
  · subst e; simp
  · have : (⟨#[c]⟩ : Str) ≠ ⟨#[k]⟩ := fun q => e (by simpa using q)
    rw [beq_false_of_ne this]; simp [e]
theorem blank_is : (" " : Str) = ⟨#[32]⟩ := by decide +kernel
theorem tab_is : ("\t" : Str) = ⟨#[9]⟩ := by decide +kernel
noncomputable abbrev wsI (x : Str) (i : Nat) (σ : Ws) : Prop := wsRun (x.cps.toList.drop i) σ = wsRun x.cps.toList ws0 ∧ σ.b ≤ i ∧ σ.count.length ≤ i
noncomputable abbrev wsB (x : Str) (σ : Ws) : Prop := wsRun x.cps.toList ws0 = σ ∧ σ.count.length ≤ 100
noncomputable abbrev wsW (a : Addr) (x : Str) (_ : Ws) : Wd := WI a 139 [("raw", .str x)]
noncomputable abbrev wsC (a : Addr) (x : Str) (σ : Ws) : Cx := σ.cx a x
section
variable {G : Gs} {P : Params}
set_option maxRecDepth 10000
theorem body_wsinit (T : Tx G P) {a : Addr} {x : Str} (hx : x.length ≤ 100) (ha : (x.cps.all fun c => decide (c < 128)) = true) :
    BodyX G 1 (fdP P 94) (bodyOf (fdP P 94)) (cxOf ["self", "ws"] [.ref a, .str x]) (WI a 139 []) (WI a 139 ((wsRun x.cps.toList ws0).ent x)) .none := by
  refine ⟨fun A env s₀ N₀ X Y s N rm w F Q E q => ?_⟩
  replace F : Fs G (fdP P 94).scope (ownNames (fdP P 94).scope) ⟨X ++ Y, s₀, N₀⟩ [("self", .imm (.ref a)), ("ws", .imm (.str x))] env s N := F
  refine putX (cx0 := [("self", .imm (.ref a)), ("ws", .imm (.str x))]) w F rm (fun q h => h) (EvX.pure (Ev.name (.tail _ (.head _)))) (Ev.name (.head _)) (by rw [T.frag]; kernel_rfl) (WI.put (by decide)) fun s N X1 w h1 l1 F => ?_
  refine asgTS (x := "S") (y := "T") F rm (Ev.tuple (EvL.cons (Ev.clsA (x := " ") (nm_of (by kernel_rfl) (by kernel_rfl) T.Whitespace) (by rw [T.frag]; kernel_rfl)) (EvL.cons (Ev.clsA (x := "\t") (nm_of (by kernel_rfl) (by kernel_rfl) T.Whitespace) (by rw [T.frag]; kernel_rfl)) .nil)) (by decide)) (by kernel_rfl) (by kernel_rfl) ?_ ?_
  rotate_left
  · intro env he
    cases env
    have h := he.scope
    dsimp only at h
    subst h
    kernel_rfl
  intro s N F
  refine asgM (x := "count") F rm (EvM.disp .nil (Nat.zero_le _)) (by kernel_rfl) fun s N F => ?_
  refine asg3 (x := "b") (y := "n") (z := "nt") F rm (Ev.int (i := ((0 : Nat) : Int))) (by kernel_rfl) (by kernel_rfl) (by kernel_rfl) fun s N F => ?_
  refine forX (items := signs x) (cx0 := [("self", .imm (.ref a))]) (wsI x) (wsB x) (wsW a x) (wsC a x) (fun d => [("ch", .imm d)]) ws0 w F rm (by walk_at "sub")
    (EvIX.str (EvR.attr (Ev.name (.head _)) (by rw [T.frag]; kernel_rfl) (WI.has rfl)) ha) (by simp only [Ws.cx, ws0, intsD, List.map_nil]; walk_at "sub") ⟨rfl, Nat.le_refl _, Nat.le_refl _⟩ ?_ ?_ ?_
  · intro i σ d _ _
    exact Tgt.name (by kernel_rfl)
  · intro i σ d s N E' Y' N₁ X ⟨hP, hb, hc⟩ hd w hall hB F
    simp only [signs, List.getElem?_map] at hd
    obtain ⟨c, hc', rfl⟩ := Option.map_eq_some_iff.mp hd
    have hi : i < x.cps.toList.length := (List.getElem?_eq_some_iff.mp hc').1
    have hi' : i < x.length := by simpa [Str.length] using hi
    have hdrop : x.cps.toList.drop i = c :: x.cps.toList.drop (i + 1) := by rw [List.drop_eq_getElem_cons hi]; congr 1; have := (List.getElem?_eq_some_iff.mp hc').2; exact this
    rw [hdrop] at hP
    have fin : ∀ σ' s' N', wsRun (x.cps.toList.drop (i + 1)) σ' = wsRun x.cps.toList ws0 → σ'.b ≤ i + 1 → σ'.count.length ≤ i + 1 → Fs G (fdP P 94).scope (ownNames (fdP P 94).scope) ⟨X ++ Y', s₀, N₁⟩ (σ'.cx a x) env s' N' →
        StX G (fdP P 94).scope (ownNames (fdP P 94).scope) env s₀ X N₁ Y' (wsW a x) (wsC a x) (wsI x (i + 1)) s' :=
      fun σ' s' N' h1 h2 h3 h4 => ⟨σ', N', N₁, X, ⟨h1, h2, h3⟩, w, fun q hq => ⟨q, hq, rfl⟩, Bse.Le.refl _, h4⟩
    replace F : Fs G (fdP P 94).scope (ownNames (fdP P 94).scope) ⟨X ++ Y', s₀, N₁⟩ [("ch", .imm (.str ⟨#[c]⟩)), ("b", .imm (.int σ.b)), ("n", .imm (.int σ.n)), ("nt", .imm (.int σ.nt)), ("count", .lst (intsD σ.count)), ("S", .imm (.str " ")), ("T", .imm (.str "\t")), ("self", .imm (.ref a)), ("ws", .imm (.str x))] env s N := F
    refine if_ F rm (EvT.cmp (Ev.name (by walk_at "sub")) (Ev.name (x := "S") (by walk_at "sub")) cm_eqS) ?_ ?_
    · intro hbS s N F
      rw [sign_eq c _ 32 blank_is] at hbS
      have hc32 : c = 32 := by simpa using hbS
      refine asgR F rm (cx' := [("ch", .imm (.str ⟨#[c]⟩)), ("b", .imm (.int σ.b)), ("nt", .imm (.int σ.nt)), ("count", .lst (intsD σ.count)), ("S", .imm (.str " ")), ("T", .imm (.str "\t")), ("self", .imm (.ref a)), ("ws", .imm (.str x))]) (d := .int ((σ.n + 1 : Nat) : Int)) (Ev.bin (Ev.name (by walk_at "sub")) Ev.int op_add) (by walk_at "sub") (by kernel_rfl) fun s N F => ?_
      refine asgR F rm (cx' := [("n", .imm (.int ((σ.n + 1 : Nat) : Int))), ("ch", .imm (.str ⟨#[c]⟩)), ("nt", .imm (.int σ.nt)), ("count", .lst (intsD σ.count)), ("S", .imm (.str " ")), ("T", .imm (.str "\t")), ("self", .imm (.ref a)), ("ws", .imm (.str x))]) (d := .int ((σ.b + 1 : Nat) : Int)) (Ev.bin (Ev.name (by walk_at "sub")) Ev.int op_add) (by walk_at "sub") (by kernel_rfl) fun s N F => ?_
      refine wnil (wnil (fin σ.blank s N ?_ ?_ ?_ (F.sub (by simp only [Ws.cx, Ws.blank]; walk_at "sub"))))
      · rw [← hP, hc32]; rfl
      · simp only [Ws.blank]; lia
      · simp only [Ws.blank]; lia
    · intro hbS s N F
      rw [sign_eq c _ 32 blank_is] at hbS
      have hc32 : c ≠ 32 := by simpa using hbS
      refine if_ F rm (EvT.cmp (Ev.name (by walk_at "sub")) (Ev.name (x := "T") (by walk_at "sub")) cm_eqS) ?_ ?_
      · intro hbT s N F
        rw [sign_eq c _ 9 tab_is] at hbT
        have hc9 : c = 9 := by simpa using hbT
        refine asgR F rm (cx' := [("ch", .imm (.str ⟨#[c]⟩)), ("b", .imm (.int σ.b)), ("nt", .imm (.int σ.nt)), ("count", .lst (intsD σ.count)), ("S", .imm (.str " ")), ("T", .imm (.str "\t")), ("self", .imm (.ref a)), ("ws", .imm (.str x))]) (d := .int ((σ.n + 1 : Nat) : Int)) (Ev.bin (Ev.name (by walk_at "sub")) Ev.int op_add) (by walk_at "sub") (by kernel_rfl) fun s N F => ?_
        refine asgR F rm (cx' := [("n", .imm (.int ((σ.n + 1 : Nat) : Int))), ("ch", .imm (.str ⟨#[c]⟩)), ("b", .imm (.int σ.b)), ("count", .lst (intsD σ.count)), ("S", .imm (.str " ")), ("T", .imm (.str "\t")), ("self", .imm (.ref a)), ("ws", .imm (.str x))]) (d := .int ((σ.nt + 1 : Nat) : Int)) (Ev.bin (Ev.name (by walk_at "sub")) Ev.int op_add) (by walk_at "sub") (by kernel_rfl) fun s N F => ?_
        refine ifJ (cxJ := [("count", .lst (intsD σ.pad)), ("nt", .imm (.int ((σ.nt + 1 : Nat) : Int))), ("n", .imm (.int ((σ.n + 1 : Nat) : Int))), ("b", .imm (.int σ.b)), ("S", .imm (.str " ")), ("T", .imm (.str "\t")), ("self", .imm (.ref a)), ("ws", .imm (.str x))]) F rm (EvT.lview (x := "count") (ds := intsD σ.count) (EvT.cmp (Ev.name (by walk_at "sub")) (Ev.callB (nm_bi T (by kernel_rfl) (by kernel_rfl) (.head _)) (EvL.cons (Ev.name (x := "count") (by walk_at "sub")) .nil) (fn_lenL (by rw [intsD_len]; simp only [sizeLine]; lia))) cm_ge) (by walk_at "sub")) ?_ ?_ ?_
        · intro hbl s N F
          rw [intsD_len] at hbl
          have hle : σ.count.length ≤ σ.b := by simpa using hbl
          refine asgMR F rm (cx' := [("nt", .imm (.int ((σ.nt + 1 : Nat) : Int))), ("n", .imm (.int ((σ.n + 1 : Nat) : Int))), ("b", .imm (.int σ.b)), ("S", .imm (.str " ")), ("T", .imm (.str "\t")), ("self", .imm (.ref a)), ("ws", .imm (.str x))]) (ds := intsD σ.pad) (EvM.lview (x := "count") (ds := intsD σ.count) ?_ (intsD_flat _) (by walk_at "sub")) (by walk_at "sub") (by kernel_rfl) fun s N F => wnil ⟨rfl, N, F⟩
          refine EvM.eq (EvM.bin (Ev.name (x := "count") (by walk_at "sub")) (EvM.ev (EvM.bin (EvM.ev (EvM.disp (EvL.cons (Ev.int (i := ((0 : Nat) : Int))) .nil) (by decide))) (Ev.bin (Ev.bin (Ev.name (x := "b") (by walk_at "sub")) (Ev.callB (nm_bi T (by kernel_rfl) (by kernel_rfl) (.head _)) (EvL.cons (Ev.name (x := "count") (by walk_at "sub")) .nil) (fn_lenL (by rw [intsD_len]; simp only [sizeLine]; lia))) op_sub) Ev.int op_add) (op_mulL (by simp) ?_ ?_ ?_))) (op_addL ?_)) ?_
          all_goals (try rw [intsD_len])
          · lia
          · lia
          · simp only [List.length_cons, List.length_nil]; lia
          · simp only [List.length_flatten, List.map_replicate, List.sum_replicate_nat, List.length_cons, List.length_nil, sizeLine]; lia
          · have e : ((σ.b : Int) - (σ.count.length : Int) + 1).toNat = σ.b + 1 - σ.count.length := by lia
            rw [e]
            unfold Ws.pad intsD
            rw [List.map_append, List.map_replicate]
            congr 1
            generalize σ.b + 1 - σ.count.length = k
            induction k with
            | zero => rfl
            | succ k ih => rw [List.replicate_succ, List.flatten_cons, ih, List.replicate_succ]; rfl
        · intro hbl s N F
          rw [intsD_len] at hbl
          have hlt : σ.b < σ.count.length := by simpa using hbl
          refine wnil ⟨rfl, N, F.sub ?_⟩
          rw [σ.pad_of hlt]
          walk_at "sub"
        intro s N F
        have hpl := σ.pad_len
        have hbp : σ.b < σ.pad.length := by lia
        have hget : (intsD σ.pad)[σ.b]? = some (.int (σ.pad.getD σ.b 0)) := by
          simp [intsD, List.getElem?_map, List.getD_eq_getElem?_getD, List.getElem?_eq_getElem hbp]
        refine setl (x := "count") (k' := σ.b) (d := .int ((σ.pad.getD σ.b 0 + 1 : Nat) : Int)) (cx' := [("nt", .imm (.int ((σ.nt + 1 : Nat) : Int))), ("n", .imm (.int ((σ.n + 1 : Nat) : Int))), ("b", .imm (.int σ.b)), ("S", .imm (.str " ")), ("T", .imm (.str "\t")), ("self", .imm (.ref a)), ("ws", .imm (.str x))]) F rm (Ev.lview (x := "count") (ds := intsD σ.pad) (Ev.bin (Ev.item (Ev.name (x := "count") (by walk_at "sub")) (Ev.name (x := "b") (by walk_at "sub")) (it_list (by lia) (by simpa using hget) (by lia))) Ev.int op_add) rfl (by walk_at "sub")) (Ev.name (by walk_at "sub")) (by walk_at "sub") (by kernel_rfl) (by lia) (by lia) (by rw [intsD_len]; simpa using hbp) fun s N F => ?_
        refine asgR F rm (cx' := [("count", .lst ((intsD σ.pad).set (σ.b : Int).toNat (.int ((σ.pad.getD σ.b 0 + 1 : Nat) : Int)))), ("nt", .imm (.int ((σ.nt + 1 : Nat) : Int))), ("n", .imm (.int ((σ.n + 1 : Nat) : Int))), ("S", .imm (.str " ")), ("T", .imm (.str "\t")), ("self", .imm (.ref a)), ("ws", .imm (.str x))]) (Ev.int (i := ((0 : Nat) : Int))) (by walk_at "sub") (by kernel_rfl) fun s N F => ?_
        have eset : (intsD σ.pad).set (σ.b : Int).toNat (.int ((σ.pad.getD σ.b 0 + 1 : Nat) : Int)) = intsD σ.tab.count := by
          show _ = intsD (σ.pad.set σ.b (σ.pad.getD σ.b 0 + 1))
          unfold intsD
          rw [List.map_set]
          rfl
        rw [eset] at F
        refine wnil (wnil (wnil (fin σ.tab s N ?_ ?_ ?_ (F.sub (by simp only [Ws.cx, Ws.tab]; walk_at "sub")))))
        · rw [← hP, hc9]; rfl
        · simp only [Ws.tab]; lia
        · simp only [Ws.tab, List.length_set]; lia
      · intro hbT s N F
        rw [sign_eq c _ 9 tab_is] at hbT
        have hc9 : c ≠ 9 := by simpa using hbT
        refine brk_ ?_
        refine ⟨σ, N, N₁, X, ⟨?_, by lia⟩, w, fun q hq => ⟨q, hq, rfl⟩, Bse.Le.refl _, F.sub (by simp only [Ws.cx]; walk_at "sub")⟩
        rw [← hP]
        show (if c = 32 then _ else _) = σ
        rw [if_neg hc32, if_neg hc9]
  · intro σ s N N₁ X hP w hall hB F
    have hfin : wsRun x.cps.toList ws0 = σ ∧ σ.count.length ≤ 100 := by
      rcases hP with ⟨h, _, h2⟩ | h
      · have hl : (signs x).length = x.cps.toList.length := by simp [signs]
        rw [hl, List.drop_length] at h
        refine ⟨h.symm, ?_⟩
        have : x.cps.toList.length = x.length := by simp [Str.length]
        lia
      · exact h
    obtain ⟨hf1, hf2⟩ := hfin
    rw [hf1] at q
    have F0 : Fs G (fdP P 94).scope (ownNames (fdP P 94).scope) ⟨X ++ Y, s₀, N₁⟩ [("count", .lst (intsD σ.count)), ("b", .imm (.int σ.b)), ("n", .imm (.int σ.n)), ("nt", .imm (.int σ.nt)), ("self", .imm (.ref a))] env s N := F.sub (by simp only [Ws.cx]; walk_at "sub")
    obtain ⟨N', F⟩ := F0.frz (by kernel_rfl)
    clear F0
    have hall0 := all_trans h1 hall
    have hB0 := l1.trans hB
    clear h1 l1 hall hB
    refine putX (cx0 := [("self", .imm (.ref a)), ("n", .imm (.int σ.n))]) w F rm (by walk_at "sub") (EvX.pure (Ev.name (.tail _ (.head _)))) (Ev.name (.head _)) (by rw [T.frag]; kernel_rfl) (WI.put (by simp)) fun s N X1 w h1 l1 F => ?_
    refine putX (cx0 := [("self", .imm (.ref a)), ("nt", .imm (.int σ.nt))]) w F rm (by walk_at "sub") (EvX.pure (Ev.name (.tail _ (.head _)))) (Ev.name (.head _)) (by rw [T.frag]; kernel_rfl) (WI.put (by simp)) fun s N X2 w h2 l2 F => ?_
    refine putX (cx0 := [("self", .imm (.ref a)), ("count", .imm (.list (intsD σ.count))), ("b", .imm (.int σ.b))]) w F rm (by walk_at "sub") (EvX.pure (Ev.tuple (EvL.cons (Ev.callT (nm_bi T (by kernel_rfl) (by kernel_rfl) (by decide)) (EvL.cons (Ev.name (.tail _ (.head _))) .nil) (fn_tupleL (by rw [intsD_len]; simp only [sizeLine]; lia))) (EvL.cons (Ev.name (.tail _ (.tail _ (.head _)))) .nil)) (by simp [sizeLine]))) (Ev.name (.head _)) (by rw [T.frag]; kernel_rfl) (WI.put (by simp)) fun s N X3 w h3 l3 F => ?_
    refine putX (cx0 := [("self", .imm (.ref a)), ("count", .imm (.list (intsD σ.count)))]) w F rm (by walk_at "sub") (EvX.pure (Ev.eq (Ev.cmp (Ev.callB (nm_bi T (by kernel_rfl) (by kernel_rfl) (.head _)) (EvL.cons (Ev.name (.tail _ (.head _))) .nil) (fn_lenL (by rw [intsD_len]; simp only [sizeLine]; lia))) Ev.int cm_le) (d' := .bool (decide (σ.count.length ≤ 1))) ?_)) (Ev.name (.head _)) (by rw [T.frag]; kernel_rfl) (WI.put (by simp)) fun s N X4 w h4 l4 F => ?_
    · rw [intsD_len]; congr 1; by_cases h : σ.count.length ≤ 1 <;> simp [h] <;> lia
    refine wnil (q .next s N N X4 Y _ _ _ w (all_trans hall0 (all_trans h1 (all_trans h2 (all_trans h3 h4)))) (hB0.trans (l1.trans (l2.trans (l3.trans l4)))) F rfl)
noncomputable def wsD (x : Str) : D := .obj 139 ["is_simple", "norm", "nt", "n", "raw"] [.bool (decide ((wsRun x.cps.toList ws0).count.length ≤ 1)), .tuple [.tuple (intsD (wsRun x.cps.toList ws0).count), .int (wsRun x.cps.toList ws0).b], .int (wsRun x.cps.toList ws0).nt, .int (wsRun x.cps.toList ws0).n, .str x]
theorem bind94 (vs : List Value) (h : vs.length = 2) : bindArgs (fdP P 94) ⟨vs, []⟩ = pure (([("self" : Str), "ws"]).zip vs) := by
  revert vs
  exact vs2 fun x y => by kernel_rfl
theorem fn_ws (T : Tx G P) {x : Str} (hx : x.length ≤ 100) (ha : (x.cps.all fun c => decide (c < 128)) = true) : Fn G 3 (.ref 139) [.str x] (wsD x) :=
  Fn.new (n := 2) (l := (wsRun x.cps.toList ws0).ent x) (by rw [T.frag]; kernel_rfl) (by rw [T.frag]; kernel_rfl) (by rw [T.frag]; kernel_rfl) (by show (["is_simple", "norm", "nt", "n", "raw"] : List Str).Nodup; decide +kernel) fun a =>
    FnXC.of (ps := ["self", "ws"]) (T.fn 94 (by decide)) rfl (fun vs h => bind94 vs h) rfl rfl rfl (by kernel_rfl) rfl rfl rfl (body_wsinit T hx ha)
end
end Mine
end
section
set_option tactic.hygienic false
open PySem PySem.W PyProof.Rows
namespace Mine
noncomputable def wsO (w : Ws) (x : Str) : D := .obj 139 ["is_simple", "norm", "nt", "n", "raw"] [.bool (decide (w.count.length ≤ 1)), .tuple [.tuple (intsD w.count), .int w.b], .int w.nt, .int w.n, .str x]
theorem wsD_eq (x : Str) : wsD x = wsO (wsRun x.cps.toList ws0) x := rfl
noncomputable def Ws.longest (w : Ws) : Int := max ((w.count.length : Int) - 1) w.b
noncomputable def Ws.il (w : Ws) (ts j : Nat) : Nat := ((List.range j).map fun t => (ts + t) / ts * w.count.getD (ts + t) 0).sum
noncomputable def Ws.indent (w : Ws) (ts : Nat) : Nat := w.b + ts * (w.il ts (w.count.length - ts) + w.nt)
noncomputable def wsLess (w v : Ws) : Bool := if v.n ≤ w.n then false else if w.count.length ≤ 1 ∧ v.count.length ≤ 1 then decide (w.nt ≤ v.nt) else
  (List.range (max w.longest v.longest).toNat).all fun j => decide (w.indent (2 + j) < v.indent (2 + j))
noncomputable def Ws.small (w : Ws) : Prop := w.count.length ≤ 100 ∧ w.b ≤ 100
section
variable {G : Gs} {P : Params} {n : Nat} {A : Around} {sc : Scope} {cx : Cx}
theorem fn_lenT {ds : List D} (h : ds.length ≤ sizeLine) : Fn G n (.builtin "len") [.tuple ds] (.int ds.length) := ⟨fun A s N vs rm ok hr => by
  refine hr.e1 ?_; intro v h1; refine h1.eTup ?_; intro a o ws e a1 a2 a3 a4
  have hz : sizeLine = 16777216 := rfl
  have hl := a4.length
  refine sp_tok ok fun Q E k => ?_
  have hL : IsTup s.heap _ _ := ⟨_, ok.hold _ _ a1, a2, _, a3⟩
  with_reducible refine PyProof.Rows.len_tuple hL (by simp only [List.size_toArray]; lia) ?_
  refine k _ _ ?_
  simp only [List.size_toArray, hl]; exact .int _ _⟩
set_option maxRecDepth 10000
theorem norm_at {w : Ws} {x : Str} (T : Tx G P) {e : Expr} {p : Pos} (he : Ev G n sc cx e (wsO w x)) (hb : ∀ env, eval (.Attribute e "norm" p) env = (do
      let o ← eval e env
      standAt p.atName
      let r ← holding [o] (getAttr o "norm" true)
      letTemporaryGo e o r
      pure r) := by intro _; rfl) : Ev G n sc cx (.Attribute e "norm" p) (.tuple [.tuple (intsD w.count), .int w.b]) :=
  Ev.attr he (by rw [T.frag]; kernel_rfl) (by kernel_rfl) hb
theorem ws_at {w : Ws} {x : Str} (T : Tx G P) {e : Expr} {name : Str} {d : D} {p : Pos} (he : Ev G n sc cx e (wsO w x)) (ok : attrOk (KP P) 139 name = true) (hl : ((["is_simple", "norm", "nt", "n", "raw"] : List Str).zip [.bool (decide (w.count.length ≤ 1)), .tuple [.tuple (intsD w.count), .int w.b], .int w.nt, .int w.n, .str x]).lookup name = some d) (hb : ∀ env, eval (.Attribute e name p) env = (do
      let o ← eval e env
      standAt p.atName
      let r ← holding [o] (getAttr o name true)
      letTemporaryGo e o r
      pure r) := by intro _; rfl) : Ev G n sc cx (.Attribute e name p) d :=
  Ev.attr he (by rw [T.frag]; exact ok) hl hb
theorem meth0_ws {pl : Env → Sem Bool} {w : Ws} {x : Str} (T : Tx G P) {e : Expr} {name : Str} {apos pos : Pos} {f : Addr} {d : D} (he : Ev G n sc cx e (wsO w x)) (ok : methOk (KP P) 139 name f = true) (hn : (["is_simple", "norm", "nt", "n", "raw"] : List Str).contains name = false) (hc : Fn G n (.ref f) [wsO w x] d)
    (hb : ∀ env, eval (.Call (.Attribute e name apos) [] [] pos) env = (do
      let ov ← eval e env
      standAt apos.atName
      let (f, first) ← holding [ov] (getMethod ov name (pl env))
      callWith pos f first (backTo pos (starEach [] env)) (backToKw pos (keywordEach [] env))) := by intro _; rfl) : Ev G n sc cx (.Call (.Attribute e name apos) [] [] pos) d :=
  Ev.methI0 he (by rw [T.frag]; exact ok) hn hc hb
theorem meth1_ws {pl : Env → Sem Bool} {w : Ws} {x : Str} (T : Tx G P) {e a : Expr} {as : List Expr} {name : Str} {apos pos : Pos} {f : Addr} {d : D} {es : List D} (he : Ev G n sc cx e (wsO w x)) (ok : methOk (KP P) 139 name f = true) (hn : (["is_simple", "norm", "nt", "n", "raw"] : List Str).contains name = false) (ha : EvL G n sc cx (a :: as) es) (hc : Fn G n (.ref f) (wsO w x :: es) d)
    (hb : ∀ env, eval (.Call (.Attribute e name apos) (a :: as) [] pos) env = (do
      let ov ← eval e env
      standAt apos.atName
      let (f, first) ← holding [ov] (getMethod ov name (pl env))
      callWith pos f first (backTo pos (starEach (a :: as) env)) (backToKw pos (keywordEach [] env))) := by intro _; rfl)
    (hs : ∀ env, starEach (a :: as) env = (false, eval a env) :: starEach as env := by intro _; rfl) (hp : ∀ env pos, (backTo pos (starEach as env)).any (·.1) = false := by intro _ _; rfl) : Ev G n sc cx (.Call (.Attribute e name apos) (a :: as) [] pos) d :=
  Ev.methI he (by rw [T.frag]; exact ok) hn ha hc hb hs hp
theorem body_longrun (T : Tx G P) {w : Ws} {x : Str} (hs : w.small) : Body G 0 (fdP P 101) (bodyOf (fdP P 101)) (cxOf ["self"] [wsO w x]) (.int w.longest) := by
  refine ⟨fun A env B s N rm F Q E k => ?_⟩
  replace F : Fs G (fdP P 101).scope (ownNames (fdP P 101).scope) B [("self", .imm (wsO w x))] env s N := F
  refine asgT2 (x := "count") (y := "trailing") F rm (norm_at T (Ev.name (.head _))) (by kernel_rfl) (by kernel_rfl) fun s N F => ?_
  refine ret_ F rm (Ev.callB (nm_bi T (by kernel_rfl) (by kernel_rfl) (by decide)) (EvL.cons (Ev.bin (Ev.callB (nm_bi T (by kernel_rfl) (by kernel_rfl) (.head _)) (EvL.cons (Ev.name (x := "count") (by walk_at "sub")) .nil) (fn_lenT (by rw [intsD_len]; have := hs.1; simp only [sizeLine]; lia))) Ev.int op_sub) (EvL.cons (Ev.name (x := "trailing") (by walk_at "sub")) .nil)) fn_max2) fun v s' N' F' r => ?_
  rw [intsD_len] at r
  exact k v s' N' _ _ _ _ (Bse.Le.refl _) F' r
theorem fn_longrun (T : Tx G P) {w : Ws} {x : Str} (hs : w.small) : Fn G 1 (.ref 101) [wsO w x] (.int w.longest) :=
  Fn.of (ps := ["self"]) (T.fn 101 (by decide)) rfl (vs1 fun x => by kernel_rfl) rfl rfl rfl (by kernel_rfl) rfl rfl rfl (body_longrun T hs)
theorem body_indent (T : Tx G P) {w : Ws} {x : Str} {ts : Nat} (hs : w.small) (h1 : 0 < ts) (h2 : ts ≤ 200) : Body G 0 (fdP P 108) (bodyOf (fdP P 108)) (cxOf ["self", "tabsize"] [wsO w x, .int ts]) (.int (w.indent ts)) := by
  refine ⟨fun A env B s N rm F Q E k => ?_⟩
  obtain ⟨hs1, hs2⟩ := hs
  replace F : Fs G (fdP P 108).scope (ownNames (fdP P 108).scope) B [("self", .imm (wsO w x)), ("tabsize", .imm (.int ts))] env s N := F
  refine asgT2 (x := "count") (y := "trailing") F rm (norm_at T (Ev.name (.head _))) (by kernel_rfl) (by kernel_rfl) fun s N F => ?_
  refine asg (x := "il") F rm (Ev.int (i := ((0 : Nat) : Int))) (by kernel_rfl) fun s N F => ?_
  refine for_ (items := rng ts (w.count.length - ts)) (fun i (σ : Nat) => σ = w.il ts i) (fun σ => [("il", .imm (.int σ)), ("trailing", .imm (.int w.b)), ("count", .imm (.tuple (intsD w.count))), ("self", .imm (wsO w x)), ("tabsize", .imm (.int ts))]) (fun d => [("i", .imm d)]) 0 F rm
    (EvI.range2 (k := w.count.length - ts) (nm_bi T (by kernel_rfl) (by kernel_rfl) (by decide)) (Ev.name (by walk_at "sub")) (Ev.callB (nm_bi T (by kernel_rfl) (by kernel_rfl) (.head _)) (EvL.cons (Ev.name (x := "count") (by walk_at "sub")) .nil) (fn_lenT (by rw [intsD_len]; simp only [sizeLine]; lia))) (by rw [intsD_len]; lia) (by lia) (by lia) (by rw [intsD_len]; lia) (by rw [intsD_len]; lia)) (fun q h => h) rfl ?_ ?_ ?_
  · intro i σ d _ _
    exact Tgt.name (by kernel_rfl)
  · intro B' i σ d s N E' hB hP hd F
    simp only [rng, List.getElem?_map] at hd
    obtain ⟨j, hj, rfl⟩ := Option.map_eq_some_iff.mp hd
    have hij : i < w.count.length - ts := by simpa using (List.getElem?_eq_some_iff.mp hj).1
    rw [List.getElem?_range hij] at hj
    cases hj
    have hlt : ts + i < w.count.length := by lia
    have hget : (intsD w.count)[((ts : Int) + i).toNat]? = some (.int (w.count.getD (ts + i) 0)) := by
      have : ((ts : Int) + i).toNat = ts + i := by lia
      rw [this]
      simp [intsD, List.getElem?_map, List.getD_eq_getElem?_getD, List.getElem?_eq_getElem hlt]
    have hdiv : Int.fdiv ((ts : Int) + i) (ts : Int) = (((ts + i) / ts : Nat) : Int) := by
      rw [Int.fdiv_eq_ediv_of_nonneg _ (by lia)]
      push_cast
      rfl
    simp only [List.cons_append, List.nil_append] at F
    refine asgR F rm (cx' := [("i", .imm (.int ((ts : Int) + i))), ("trailing", .imm (.int w.b)), ("count", .imm (.tuple (intsD w.count))), ("self", .imm (wsO w x)), ("tabsize", .imm (.int ts))]) (d := .int ((σ + (ts + i) / ts * w.count.getD (ts + i) 0 : Nat) : Int)) (Ev.eq (Ev.bin (Ev.name (x := "il") (by walk_at "sub")) (Ev.bin (Ev.bin (Ev.name (x := "i") (by walk_at "sub")) (Ev.name (x := "tabsize") (by walk_at "sub")) (op_div (by lia) (by lia))) (Ev.item (Ev.name (x := "count") (by walk_at "sub")) (Ev.name (x := "i") (by walk_at "sub")) (it_tuple (by lia) hget (by lia))) (op_mul (IntMulOk.of_left ?_))) op_add) ?_) (by walk_at "sub") (by kernel_rfl) fun s N F => ?_
    · rw [hdiv]
      have : (ts + i) / ts ≤ ts + i := Nat.div_le_self _ _
      generalize (ts + i) / ts = qq at this ⊢
      exact intBits_le_64 (by lia) (by lia)
    · rw [hdiv]; push_cast; rfl
    · refine wnil ⟨σ + (ts + i) / ts * w.count.getD (ts + i) 0, N, ?_, F.sub (by walk_at "sub")⟩
      rw [hP]
      simp [Ws.il, List.range_succ]
  · intro σ s N hP F
    have hl : (rng (ts : Int) (w.count.length - ts)).length = w.count.length - ts := by simp [rng]
    rw [hl] at hP
    refine ret_ F rm (Ev.eq (Ev.bin (Ev.name (x := "trailing") (by walk_at "sub")) (Ev.bin (Ev.name (x := "tabsize") (by walk_at "sub")) (Ev.bin (Ev.name (x := "il") (by walk_at "sub")) (ws_at (d := .int w.nt) (w := w) (x := x) T (Ev.name (x := "self") (by walk_at "sub")) (by kernel_rfl) (by kernel_rfl)) op_add) (op_mul (IntMulOk.of_left (intBits_le_64 (by lia) (by lia))))) op_add) (d' := .int (w.indent ts)) ?_) fun v s' N' F' r => k v s' N' _ _ _ _ (Bse.Le.refl _) F' r
    rw [hP]; unfold Ws.indent; push_cast; rfl
theorem fn_indent (T : Tx G P) {w : Ws} {x : Str} {ts : Nat} (hs : w.small) (h1 : 0 < ts) (h2 : ts ≤ 200) : Fn G 1 (.ref 108) [wsO w x, .int ts] (.int (w.indent ts)) :=
  Fn.of (ps := ["self", "tabsize"]) (T.fn 108 (by decide)) rfl (vs2 fun x y => by kernel_rfl) rfl rfl rfl (by kernel_rfl) rfl rfl rfl (body_indent T hs h1 h2)
theorem body_less (T : Tx G P) {w v : Ws} {x y : Str} (hw : w.small) (hv : v.small) : Body G 1 (fdP P 129) (bodyOf (fdP P 129)) (cxOf ["self", "other"] [wsO w x, wsO v y]) (.bool (wsLess w v)) := by
  refine ⟨fun A env B s N rm F Q E k => ?_⟩
  replace F : Fs G (fdP P 129).scope (ownNames (fdP P 129).scope) B [("self", .imm (wsO w x)), ("other", .imm (wsO v y))] env s N := F
  refine if_ F rm (EvT.cmp (ws_at (d := .int w.n) (w := w) (x := x) T (Ev.name (x := "self") (by walk_at "sub")) (by kernel_rfl) (by kernel_rfl)) (ws_at (d := .int v.n) (w := v) (x := y) T (Ev.name (x := "other") (by walk_at "sub")) (by kernel_rfl) (by kernel_rfl)) cm_ge) ?_ ?_
  · intro hb s N F
    have h : v.n ≤ w.n := by simpa using hb
    refine ret_ F rm Ev.bool fun u s' N' F' r => ?_
    have e : wsLess w v = false := by unfold wsLess; rw [if_pos h]
    rw [e] at k
    exact k u s' N' _ _ _ _ (Bse.Le.refl _) F' r
  intro hb s N F
  have h : ¬ v.n ≤ w.n := by simpa using hb
  refine wnil ?_
  refine if_ F rm (EvT.and2 (EvT.val (ws_at (d := .bool (decide (w.count.length ≤ 1))) (w := w) (x := x) T (Ev.name (x := "self") (by walk_at "sub")) (by kernel_rfl) (by kernel_rfl)) Tr.bool) fun _ => (EvT.val (ws_at (d := .bool (decide (v.count.length ≤ 1))) (w := v) (x := y) T (Ev.name (x := "other") (by walk_at "sub")) (by kernel_rfl) (by kernel_rfl)) Tr.bool)) ?_ ?_
  · intro hb s N F
    have h2 : w.count.length ≤ 1 ∧ v.count.length ≤ 1 := by simpa using hb
    refine ret_ F rm (Ev.eq (Ev.cmp (ws_at (d := .int w.nt) (w := w) (x := x) T (Ev.name (x := "self") (by walk_at "sub")) (by kernel_rfl) (by kernel_rfl)) (ws_at (d := .int v.nt) (w := v) (x := y) T (Ev.name (x := "other") (by walk_at "sub")) (by kernel_rfl) (by kernel_rfl)) cm_le) (d' := .bool (wsLess w v)) ?_) fun u s' N' F' r => k u s' N' _ _ _ _ (Bse.Le.refl _) F' r
    unfold wsLess; rw [if_neg h, if_pos h2]; congr 1; simp
  intro hb s N F
  have h2 : ¬ (w.count.length ≤ 1 ∧ v.count.length ≤ 1) := by simpa using hb
  refine wnil ?_
  have hl1 : w.longest ≤ 100 ∧ 0 ≤ w.longest := by have := hw.1; have := hw.2; unfold Ws.longest; lia
  have hl2 : v.longest ≤ 100 ∧ 0 ≤ v.longest := by have := hv.1; have := hv.2; unfold Ws.longest; lia
  refine asg (x := "n") F rm (Ev.bin (Ev.callB (nm_bi T (by kernel_rfl) (by kernel_rfl) (by decide)) (EvL.cons (meth0_ws (w := w) (x := x) (f := 101) T (Ev.name (x := "self") (by walk_at "sub")) (by kernel_rfl) (by kernel_rfl) (fn_longrun T hw)) (EvL.cons (meth0_ws (w := v) (x := y) (f := 101) T (Ev.name (x := "other") (by walk_at "sub")) (by kernel_rfl) (by kernel_rfl) (fn_longrun T hv)) .nil)) fn_max2) Ev.int op_add) (by kernel_rfl) fun s N F => ?_
  have hless : wsLess w v = (List.range (max w.longest v.longest).toNat).all fun j => decide (w.indent (2 + j) < v.indent (2 + j)) := by unfold wsLess; rw [if_neg h, if_neg h2]
  generalize hm : (max w.longest v.longest).toNat = m at hless
  have hm' : max w.longest v.longest = (m : Int) := by lia
  rw [hm'] at F
  refine for_ (items := rng 2 m) (fun i (σ : Unit) => ∀ j, j < i → w.indent (2 + j) < v.indent (2 + j)) (fun σ => [("self", .imm (wsO w x)), ("other", .imm (wsO v y))]) (fun d => [("ts", .imm d)]) () F rm
    (EvI.range2 (k := m) (nm_bi T (by kernel_rfl) (by kernel_rfl) (by decide)) Ev.int (Ev.bin (Ev.name (x := "n") (by walk_at "sub")) Ev.int op_add) (by lia) (by lia) (by lia) (by lia) (by lia)) (by walk_at "sub") (fun j hj => by lia) ?_ ?_ ?_
  · intro i σ d _ _
    exact Tgt.name (by kernel_rfl)
  · intro B' i σ d s N E' hB hP hd F
    simp only [rng, List.getElem?_map] at hd
    obtain ⟨j, hj, rfl⟩ := Option.map_eq_some_iff.mp hd
    have hij : i < m := by simpa using (List.getElem?_eq_some_iff.mp hj).1
    rw [List.getElem?_range hij] at hj
    cases hj
    simp only [List.cons_append, List.nil_append] at F
    have ei : (2 : Int) + (i : Int) = ((2 + i : Nat) : Int) := by lia
    rw [ei] at F
    refine if_ F rm (EvT.cmp (meth1_ws (w := w) (x := x) (f := 108) T (Ev.name (x := "self") (by walk_at "sub")) (by kernel_rfl) (by kernel_rfl) (EvL.cons (Ev.name (x := "ts") (by walk_at "sub")) .nil) (fn_indent T hw (by lia) (by lia))) (meth1_ws (w := v) (x := y) (f := 108) T (Ev.name (x := "other") (by walk_at "sub")) (by kernel_rfl) (by kernel_rfl) (EvL.cons (Ev.name (x := "ts") (by walk_at "sub")) .nil) (fn_indent T hv (by lia) (by lia))) cm_ge) ?_ ?_
    · intro hb s N F
      have hge : v.indent (2 + i) ≤ w.indent (2 + i) := by simpa using hb
      refine ret_ F rm Ev.bool fun u s' N' F' r => ?_
      have e : wsLess w v = false := by
        rw [hless, List.all_eq_false]
        exact ⟨i, List.mem_range.mpr hij, by simp; exact hge⟩
      rw [e] at k
      exact k u s' N' _ _ _ _ hB F' r
    · intro hb s N F
      have hlt : w.indent (2 + i) < v.indent (2 + i) := by simpa using hb
      refine wnil (wnil ⟨(), N, fun j hj => ?_, F.sub (by walk_at "sub")⟩)
      rcases Nat.lt_succ_iff_lt_or_eq.mp hj with h | h
      · exact hP j h
      · rw [h]; exact hlt
  · intro σ s N hP F
    have hl : (rng 2 m).length = m := by simp [rng]
    rw [hl] at hP
    refine ret_ F rm Ev.bool fun u s' N' F' r => ?_
    have e : wsLess w v = true := by
      rw [hless, List.all_eq_true]
      exact fun j hj => by simpa using hP j (List.mem_range.mp hj)
    rw [e] at k
    exact k u s' N' _ _ _ _ (Bse.Le.refl _) F' r
theorem fn_less (T : Tx G P) {w v : Ws} {x y : Str} (hw : w.small) (hv : v.small) : Fn G 2 (.ref 129) [wsO w x, wsO v y] (.bool (wsLess w v)) :=
  Fn.of (ps := ["self", "other"]) (T.fn 129 (by decide)) rfl (vs2 fun x y => by kernel_rfl) rfl rfl rfl (by kernel_rfl) rfl rfl rfl (body_less T hw hv)
end
end Mine
end
section
set_option tactic.hygienic false
open PySem PySem.W PyProof.Rows
namespace Mine
noncomputable def S (l : List Nat) : Str := ⟨l.toArray⟩
theorem S_len (l : List Nat) : (S l).length = l.length := by simp [S, Str.length]
theorem S_app (l r : List Nat) : S l ++ S r = S (l ++ r) := by
  show (⟨l.toArray ++ r.toArray⟩ : Str) = ⟨(l ++ r).toArray⟩
  simp
theorem S_cps (l : List Nat) : (S l).cps.toList = l := by simp [S]
theorem S_inj {l r : List Nat} (h : S l = S r) : l = r := by have := congrArg (fun x => x.cps.toList) h; simpa [S] using this
theorem S_of (x : Str) : S x.cps.toList = x := by simp [S]
theorem signs_S (l : List Nat) : signs (S l) = l.map fun c => .str (S [c]) := by simp [signs, S]
theorem join_nil : ∀ (xs : List (List Nat)) (acc : Array Nat), (xs.map S).foldl (fun a (p : Str) => a ++ (Str.empty).cps ++ p.cps) acc = acc ++ xs.flatten.toArray
  | [], acc => by simp
  | x :: xs, acc => by
    rw [List.map_cons, List.foldl_cons, join_nil xs, List.flatten_cons]
    simp [S, Str.empty]
theorem empty_is : ("" : Str) = Str.empty := by decide +kernel
theorem join_S (xs : List (List Nat)) : Txt.join "" (xs.map S) = S xs.flatten := by
  rw [empty_is]
  show Builtin.Str.glued Str.empty (xs.map S) = _
  unfold Builtin.Str.glued
  cases xs with
  | nil => rfl
  | cons x xs =>
    rw [List.map_cons, List.drop_succ_cons, List.drop_zero, List.headD_cons, join_nil]
    simp [S]
theorem foldl_len : ∀ (xs : List (List Nat)) (a : Nat), (xs.map S).foldl (fun a (p : Str) => a + p.length + (Str.empty).length) a = a + xs.flatten.length
  | [], a => by simp
  | x :: xs, a => by
    rw [List.map_cons, List.foldl_cons, foldl_len xs, List.flatten_cons, List.length_append, S_len]
    show a + x.length + 0 + _ = _
    lia
theorem joinOk_S {xs : List (List Nat)} (h : xs.flatten.length ≤ 1000) : JoinOk "" (xs.map S) = true := by
  unfold JoinOk
  rw [empty_is]
  have : (xs.map S).toArray.foldl (fun a (p : Str) => a + p.length + (Str.empty).length) 0 = xs.flatten.length := by
    rw [List.foldl_toArray, foldl_len]; lia
  rw [this]
  have : Builtin.Str.tooLong xs.flatten.length = false := decide_eq_false (by show ¬ _ > (_ : Nat); simp only [sizeLine]; lia)
  rw [this]; rfl
theorem flat1 (l : List Nat) : (l.map fun c => [c]).flatten = l := by
  induction l with
  | nil => rfl
  | cons a l ih => simp [ih]
section
variable {G : Gs} {P : Params} {n : Nat} {A : Around} {sc : Scope} {cx : Cx}
set_option maxRecDepth 10000
theorem op_mul2S {x : Str} (hx : x.length = 1) : Op2 G n .Mult (.int 2) (.str x) (.str (x ++ x)) := ⟨fun A s N a b rm ok h1 h2 => by
  cases h1 with | int _ t => cases h2 with | str _ u =>
    refine sp_tok ok fun Q E k => ?_
    refine lm_binaryOp_repeat_right (T := "str") (U := "int") (by decide) (fun s' => typeIs_int s' 2 t) (typeIs_str s x u) F.fills_int_mul noFill_str_mul F.slot_int_mul lm_noRepeat_int repeat_str F.slot_int_index.lookup
      (call_gives F.slot_int_mul (typeIs_int s 2 t) F.entry_int_mul (F.args_int_mul_2 _ _) (AutoIntG3.int___mul___int_str_0 2 t x u)
        ⟨rfl, typeIs_str s x u, call_gives F.slot_str_mul (typeIs_str s x u) F.entry_str_mul (F.args_str_mul_2 _ _) (gives_str_mul x 2 u t (by decide) (fun _ _ => by rw [hx]; decide) (fun _ _ => by rw [hx]; simp [Builtin.Str.tooLong, sizeLine])) ?_⟩)
    rw [if_neg (by decide), if_neg (by rw [hx]; decide)]
    have e : (⟨(List.replicate (2 : Int).toNat x.cps).foldl (· ++ ·) #[]⟩ : Str) = x ++ x := by
      show (⟨#[] ++ x.cps ++ x.cps⟩ : Str) = ⟨x.cps ++ x.cps⟩
      simp
    rw [e]
    refine ⟨?_, k _ _ (.str _ _)⟩
    show (x.cps ++ x.cps).size ≤ sizeLine
    rw [Array.size_append]
    have : x.cps.size = 1 := hx
    simp only [sizeLine]; lia⟩
noncomputable def leadL (x : Int) : List Nat := (List.range (x % 5).toNat).map fun k => if x / 5 / 2 ^ k % 2 = 1 then 9 else 32
theorem leadL_len (x : Int) : (leadL x).length = (x % 5).toNat := by simp [leadL]
theorem leadL_small (x : Int) : (leadL x).length ≤ 4 := by rw [leadL_len]; lia
theorem fdivP {a b : Int} (hb : 0 ≤ b) : a.fdiv b = a / b := Int.fdiv_eq_ediv_of_nonneg _ hb
theorem fmodP {a b : Int} (hb : 0 ≤ b) : a.fmod b = a % b := Int.fmod_eq_emod_of_nonneg _ hb
theorem body_word (T : Tx G P) {x : Int} {l : Nat} : Body G 0 (fdP P 155) (bodyOf (fdP P 155)) (cxOf ["x", "letter"] [.int x, .str (S [l])]) (.str (S (leadL x ++ [l]))) := by
  refine ⟨fun A env B s N rm F Q E k => ?_⟩
  replace F : Fs G (fdP P 155).scope (ownNames (fdP P 155).scope) B [("x", .imm (.int x)), ("letter", .imm (.str (S [l])))] env s N := F
  have hm : x.fmod 5 = ((x % 5).toNat : Int) := by rw [fmodP (by decide)]; lia
  refine ret_ F rm (Ev.bin (Ev.meth1 mt_join (Ev.str (x := "")) (EvL.cons (EvM.ev (EvM.eq (EvM.map (List.range (x % 5).toNat) (fun (k : Nat) => .int (0 + k)) (fun k => .str (S [if x / 5 / 2 ^ k % 2 = 1 then 9 else 32])) (fun k => [("k", .imm (.int (0 + k)))]) [("x", .imm (.int x))]
    (EvI.range1 (k := (x % 5).toNat) (nm_bi T (by kernel_rfl) (by kernel_rfl) (by decide)) (Ev.bin (Ev.name (.head _)) Ev.int (op_mod (by decide))) (by rw [hm]; exact .inl rfl) (by rw [hm]; lia) (by rw [hm]; lia)) (by kernel_rfl) (by walk_at "sub") (fun k _ => Tgt.name (by kernel_rfl)) (fun k hk => ?_) (by simp [sizeLine]; lia))
    (d' := ((leadL x).map (fun c => [c]) |>.map S).map .str) ?_)) .nil) (fn_join (joinOk_S ?_))) (Ev.name (.tail _ (.head _))) (op_addS ?_)) fun v s' N' F' r => ?_
  · simp only [List.cons_append, List.nil_append]
    have e0 : (0 : Int) + (k : Int) = k := by lia
    rw [e0]
    refine Ev.item (Ev.str (x := " \t")) (Ev.bin (Ev.bin (Ev.bin (Ev.name (x := "x") (by walk_at "sub")) Ev.int (op_div (by decide) (by decide))) (Ev.name (x := "k") (by walk_at "sub")) (op_shr (by lia))) Ev.int op_and) ?_
    rw [PyProof.Rows.bitAnd_m1, Int.toNat_natCast, fdivP (a := x) (b := 5) (by decide), fdivP (Int.pow_nonneg (by decide))]
    rcases Int.emod_two_eq (x / 5 / 2 ^ k) with h | h
    · rw [h]; exact it_str (c := 32) (by decide) (by decide +kernel)
    · rw [h]; exact it_str (c := 9) (by decide) (by decide +kernel)
  · simp [leadL, List.map_map, Function.comp_def]
  · have := leadL_small x; rw [flat1]; lia
  · have := leadL_small x; rw [join_S, S_len, S_len, flat1]; simp only [sizeLine, List.length_cons, List.length_nil]; lia
  · rw [join_S, S_app] at r
    rw [flat1] at r
    exact k v s' N' _ _ _ _ (Bse.Le.refl _) F' r
theorem fn_word (T : Tx G P) {x : Int} {l : Nat} : Fn G 1 (.ref 155) [.int x, .str (S [l])] (.str (S (leadL x ++ [l]))) :=
  Fn.of (ps := ["x", "letter"]) (T.fn 155 (by decide)) rfl (vs2 fun x y => by kernel_rfl) rfl rfl rfl (by kernel_rfl) rfl rfl rfl (body_word T)
end
end Mine
end
section
set_option tactic.hygienic false
open PySem PySem.W PyProof.Rows
namespace Mine
structure LeadOk (l : List Nat) : Prop where
  len : l.length ≤ 4
  sg : ∀ c ∈ l, c = 32 ∨ c = 9
theorem leadOk (x : Int) : LeadOk (leadL x) := ⟨leadL_small x, fun c hc => by
  obtain ⟨k, _, e⟩ := List.mem_map.mp hc
  rw [← e]; split <;> simp⟩
theorem lead_cases {l : List Nat} (h : l.length ≤ 4) : l = [] ∨ (∃ a, l = [a]) ∨ (∃ a b, l = [a, b]) ∨ (∃ a b c, l = [a, b, c]) ∨ ∃ a b c d, l = [a, b, c, d] := by
  match l, h with
  | [], _ => exact .inl rfl
  | [a], _ => exact .inr (.inl ⟨a, rfl⟩)
  | [a, b], _ => exact .inr (.inr (.inl ⟨a, b, rfl⟩))
  | [a, b, c], _ => exact .inr (.inr (.inr (.inl ⟨a, b, c, rfl⟩)))
  | [a, b, c, d], _ => exact .inr (.inr (.inr (.inr ⟨a, b, c, d, rfl⟩)))
  | _ :: _ :: _ :: _ :: _ :: _, h => simp at h
theorem slice_lead {l : List Nat} (h : l.length ≤ 4) (c : Nat) : Txt.slice (S (l ++ [c])) none (some (-1)) = S l := by
  rcases lead_cases h with rfl | ⟨a, rfl⟩ | ⟨a, b, rfl⟩ | ⟨a, b, d, rfl⟩ | ⟨a, b, d, e, rfl⟩ <;> kernel_rfl
theorem last_lead {l : List Nat} (h : l.length ≤ 4) (c : Nat) : Txt.charAt (S (l ++ [c])) (-1) = some c := by
  rcases lead_cases h with rfl | ⟨a, rfl⟩ | ⟨a, b, rfl⟩ | ⟨a, b, d, rfl⟩ | ⟨a, b, d, e, rfl⟩ <;> kernel_rfl
theorem bs_is : ("\\" : Str) = S [92] := by decide +kernel
noncomputable def whiteOf (x : Int) : Nat := if x / 160 % 4 = 0 then 10 else if x / 160 % 4 = 1 then 9 else if x / 160 % 4 = 2 then 13 else 32
noncomputable def bareL (l : List Nat) : List Nat := l.flatMap fun c => [92, c]
noncomputable def writtenL (x : Int) (l : List Nat) (c : Nat) : List Nat := if x / 80 % 2 = 1 then bareL l ++ [c, whiteOf x, whiteOf x] else [34, 92] ++ l ++ [c, 34]
theorem bareL_len (l : List Nat) : (bareL l).length = 2 * l.length := by
  induction l with
  | nil => rfl
  | cons a l ih => simp only [bareL, List.flatMap_cons, List.length_append, List.length_cons, List.length_nil] at ih ⊢; lia
section
variable {G : Gs} {P : Params} {n : Nat} {A : Around} {sc : Scope} {cx : Cx}
set_option maxRecDepth 10000
theorem Ev.neg {e : Expr} {p : Pos} {i : Int} (h : Ev G n sc cx e (.int i)) : Ev G n sc cx (.UnaryOp .USub e p) (.int (-i)) := by
  refine ⟨fun A env s N rm z => ⟨fun Q E k => ?_⟩⟩
  with_reducible refine UnaryOp_ ((h.go A env s N rm z).go _ _ fun v s1 N1 g1 r1 => ?_)
  refine r1.eInt ?_; intro t; exact PyProof.Rows.neg_int (k _ _ _ (g1.trans (Gr.toks (z.gr g1).toOk _)) (.int _ _))
theorem ascii_lead {l : List Nat} (h : LeadOk l) : ((S l).cps.all fun c => decide (c < 128)) = true := by
  simp only [S, List.all_toArray, List.all_eq_true, decide_eq_true_eq]
  intro c hc
  rcases h.sg c hc with h | h <;> lia
theorem body_written (T : Tx G P) {x : Int} {l : List Nat} {c : Nat} (hl : LeadOk l) : Body G 0 (fdP P 160) (bodyOf (fdP P 160)) (cxOf ["x", "word"] [.int x, .str (S (l ++ [c]))]) (.str (S (writtenL x l c))) := by
  refine ⟨fun A env B s N rm F Q E k => ?_⟩
  replace F : Fs G (fdP P 160).scope (ownNames (fdP P 160).scope) B [("x", .imm (.int x)), ("word", .imm (.str (S (l ++ [c]))))] env s N := F
  have hlen := hl.len
  have hsl : (S (l ++ [c])).length ≤ sizeLine := by rw [S_len]; simp [sizeLine]; lia
  have hm : (x.fdiv 80).fmod 2 = x / 80 % 2 := by rw [fmodP (by decide), fdivP (by decide)]
  refine if_ F rm (EvT.val (Ev.bin (Ev.bin (Ev.name (x := "x") (by walk_at "sub")) Ev.int (op_div (by decide) (by decide))) Ev.int (op_mod (by decide))) tr_int) ?_ ?_
  · intro hb s N F
    rw [hm] at hb
    have h1 : x / 80 % 2 = 1 := by
      have : x / 80 % 2 ≠ 0 := by simpa using hb
      lia
    refine ret_ F rm (Ev.bin (Ev.bin (Ev.meth1 mt_join (Ev.str (x := "")) (EvL.cons (EvM.ev (EvM.eq (EvM.map l (fun c => .str (S [c])) (fun c => .str (S [92, c])) (fun c => [("sign", .imm (.str (S [c])))]) []
      (by rw [← signs_S]; exact EvI.str (Ev.eq (Ev.sliceS (Ev.name (x := "word") (by walk_at "sub")) EvP.no (EvP.int (Ev.neg Ev.int)) hsl) (congrArg D.str (slice_lead hlen c))) (ascii_lead hl)) (by kernel_rfl) (by walk_at "sub") (fun k _ => Tgt.name (by kernel_rfl)) (fun k hk => Ev.eq (Ev.bin (Ev.str (x := "\\")) (Ev.name (d := .str (S [k])) (.head _)) (op_addS (by rw [bs_is, S_len, S_len]; simp [sizeLine]))) (by rw [bs_is, S_app]; rfl)) (by simp only [sizeLine]; lia))
      (d' := ((l.map fun c => [92, c]).map S).map .str) (by simp))) .nil) (fn_join (joinOk_S (by show (bareL l).length ≤ 1000; rw [bareL_len]; lia)))) (Ev.item (Ev.name (x := "word") (by walk_at "sub")) (Ev.neg Ev.int) (it_str (c := c) (by decide) (last_lead hlen c))) (op_addS ?_)) (Ev.bin Ev.int (Ev.item (Ev.str (x := "\n\t\r ")) (Ev.bin (Ev.bin (Ev.name (x := "x") (by walk_at "sub")) Ev.int (op_div (by decide) (by decide))) Ev.int (op_mod (by decide))) ?_) (op_mul2S (x := S [whiteOf x]) (by rw [S_len]; rfl))) (op_addS ?_)) fun v s' N' F' r => ?_
    · rw [join_S, S_len]
      show (bareL l).length + 1 ≤ _
      rw [bareL_len]; simp only [sizeLine]; lia
    · rw [fmodP (by decide), fdivP (by decide)]
      rcases (show x / 160 % 4 = 0 ∨ x / 160 % 4 = 1 ∨ x / 160 % 4 = 2 ∨ x / 160 % 4 = 3 by lia) with h | h | h | h
      · rw [h, show whiteOf x = 10 by simp [whiteOf, h]]; exact it_str (c := 10) (by decide) (by decide +kernel)
      · rw [h, show whiteOf x = 9 by simp [whiteOf, h]]; exact it_str (c := 9) (by decide) (by decide +kernel)
      · rw [h, show whiteOf x = 13 by simp [whiteOf, h]]; exact it_str (c := 13) (by decide) (by decide +kernel)
      · rw [h, show whiteOf x = 32 by simp [whiteOf, h]]; exact it_str (c := 32) (by decide) (by decide +kernel)
    · rw [join_S]
      show (S _ ++ S [c]).length + (S _ ++ S _).length ≤ _
      rw [S_app, S_app, S_len, S_len, List.length_append]
      show (bareL l).length + 1 + 2 ≤ _
      rw [bareL_len]; simp only [sizeLine]; lia
    · rw [join_S] at r
      have r' : Rp N' v (.str (S _ ++ S [c] ++ (S _ ++ S _))) := r
      rw [S_app, S_app, S_app] at r'
      have e : writtenL x l c = (l.map fun c => [92, c]).flatten ++ [c] ++ ([whiteOf x] ++ [whiteOf x]) := by
        unfold writtenL; rw [if_pos h1]; simp [bareL, List.flatMap]
      rw [e] at k
      exact k v s' N' _ _ _ _ (Bse.Le.refl _) F' r'
  · intro hb s N F
    rw [hm] at hb
    have h1 : ¬ x / 80 % 2 = 1 := by
      have : x / 80 % 2 = 0 := by simpa using hb
      lia
    refine wnil ?_
    refine ret_ F rm (Ev.bin (Ev.bin (Ev.str (x := "\"\\")) (Ev.name (x := "word") (by walk_at "sub")) (op_addS ?_)) (Ev.str (x := "\"")) (op_addS ?_)) fun v s' N' F' r => ?_
    · rw [S_len]; simp [sizeLine]; show 2 + _ ≤ _; lia
    · have e1 : ("\"\\" : Str) = S [34, 92] := by decide +kernel
      have e2 : ("\"" : Str) = S [34] := by decide +kernel
      rw [e1, e2, S_app, S_len, S_len]; simp [sizeLine]; lia
    · have e1 : ("\"\\" : Str) = S [34, 92] := by decide +kernel
      have e2 : ("\"" : Str) = S [34] := by decide +kernel
      rw [e1, e2, S_app, S_app] at r
      have e : writtenL x l c = [34, 92] ++ (l ++ [c]) ++ [34] := by
        unfold writtenL; rw [if_neg h1]; simp
      rw [e] at k
      exact k v s' N' _ _ _ _ (Bse.Le.refl _) F' r
theorem fn_written (T : Tx G P) {x : Int} {l : List Nat} {c : Nat} (hl : LeadOk l) : Fn G 1 (.ref 160) [.int x, .str (S (l ++ [c]))] (.str (S (writtenL x l c))) :=
  Fn.of (ps := ["x", "word"]) (T.fn 160 (by decide)) rfl (vs2 fun x y => by kernel_rfl) rfl rfl rfl (by kernel_rfl) rfl rfl rfl (body_written T hl)
end
end Mine
end
section
set_option tactic.hygienic false
open PySem PySem.W PyProof.Rows
namespace Mine
noncomputable def colStep (size c sign : Nat) : Nat := if sign = 32 then c + 1 else c / size * size + size
noncomputable def colOf (size : Nat) (l : List Nat) : Nat := l.foldl (colStep size) 0
noncomputable def colsOf (l : List Nat) : List Nat := (List.range 5).map fun j => colOf (1 + j) l
theorem colStep_le (size c sign : Nat) (h : size ≤ 5) : colStep size c sign ≤ c + 5 := by
  unfold colStep
  split
  · lia
  · have := Nat.div_mul_le_self c size; lia
theorem colFold_le (size : Nat) (h : size ≤ 5) : ∀ (l : List Nat) (c : Nat), l.foldl (colStep size) c ≤ c + 5 * l.length
  | [], c => by simp
  | a :: l, c => by
    have := colFold_le size h l (colStep size c a)
    have := colStep_le size c a h
    simp only [List.foldl_cons, List.length_cons]; lia
section
variable {G : Gs} {P : Params} {n : Nat} {A : Around} {sc : Scope} {cx : Cx}
set_option maxRecDepth 10000
theorem body_columns (T : Tx G P) {l : List Nat} {c : Nat} (hl : LeadOk l) : Body G 0 (fdP P 167) (bodyOf (fdP P 167)) (cxOf ["word"] [.str (S (l ++ [c]))]) (.list (intsD (colsOf l))) := by
  refine ⟨fun A env B s N rm F Q E k => ?_⟩
  replace F : Fs G (fdP P 167).scope (ownNames (fdP P 167).scope) B [("word", .imm (.str (S (l ++ [c]))))] env s N := F
  have hlen := hl.len
  have hsl : (S (l ++ [c])).length ≤ sizeLine := by rw [S_len]; simp [sizeLine]; lia
  refine asgM (x := "columns") F rm (EvM.disp .nil (Nat.zero_le _)) (by kernel_rfl) fun s N F => ?_
  refine for_ (items := rng 1 5) (fun i (σ : List Nat) => σ = (List.range i).map fun j => colOf (1 + j) l) (fun σ => [("columns", .lst (intsD σ)), ("word", .imm (.str (S (l ++ [c]))))]) (fun d => [("size", .imm d)]) [] F rm
    (EvI.range2 (k := 5) (nm_bi T (by kernel_rfl) (by kernel_rfl) (by decide)) Ev.int Ev.int (by decide) (by decide) (by decide) (by decide) (by decide)) (fun q h => h) rfl ?_ ?_ ?_
  · intro i σ d _ _
    exact Tgt.name (by kernel_rfl)
  · intro B' i σ d s N E' hB hP hd F
    simp only [rng, List.getElem?_map] at hd
    obtain ⟨j, hj, rfl⟩ := Option.map_eq_some_iff.mp hd
    have hij : i < 5 := by simpa using (List.getElem?_eq_some_iff.mp hj).1
    rw [List.getElem?_range hij] at hj
    cases hj
    simp only [List.cons_append, List.nil_append] at F
    have ei : (1 : Int) + (i : Int) = ((1 + i : Nat) : Int) := by lia
    rw [ei] at F
    refine asg (x := "column") F rm (Ev.int (i := ((0 : Nat) : Int))) (by kernel_rfl) fun s N F => ?_
    refine for_ (items := signs (S l)) (fun m (τ : Nat) => τ = (l.take m).foldl (colStep (1 + i)) 0) (fun τ => [("column", .imm (.int τ)), ("size", .imm (.int ((1 + i : Nat) : Int))), ("columns", .lst (intsD σ)), ("word", .imm (.str (S (l ++ [c]))))]) (fun d => [("sign", .imm d)]) 0 F rm
      (EvI.str (Ev.eq (Ev.sliceS (Ev.name (x := "word") (by walk_at "sub")) EvP.no (EvP.int (Ev.neg Ev.int)) hsl) (congrArg D.str (slice_lead hlen c))) (ascii_lead hl)) (fun q h => h) rfl ?_ ?_ ?_
    · intro m τ d _ _
      exact Tgt.name (by kernel_rfl)
    · intro B'' m τ d s N E'' hB'' hP' hd' F
      rw [signs_S, List.getElem?_map] at hd'
      obtain ⟨a, ha, rfl⟩ := Option.map_eq_some_iff.mp hd'
      simp only [List.cons_append, List.nil_append] at F
      have hstep : (l.take (m + 1)).foldl (colStep (1 + i)) 0 = colStep (1 + i) τ a := by
        rw [List.take_add_one, ha, Option.toList_some, List.foldl_append, ← hP']; rfl
      have hle : τ ≤ 20 := by
        have := colFold_le (1 + i) (by lia) (l.take m) 0
        have h2 : (l.take m).length ≤ 4 := by rw [List.length_take]; lia
        lia
      refine asgR F rm (cx' := [("sign", .imm (.str (S [a]))), ("size", .imm (.int ((1 + i : Nat) : Int))), ("columns", .lst (intsD σ)), ("word", .imm (.str (S (l ++ [c]))))]) (d := .int (colStep (1 + i) τ a : Nat)) (Ev.ite (b := decide (a = 32)) (EvT.eq (EvT.cmp (Ev.name (x := "sign") (d := .str (S [a])) (by walk_at "sub")) (Ev.str (x := " ")) cm_eqS) (sign_eq a _ 32 blank_is)) (fun hb => ?_) (fun hb => ?_)) (by walk_at "sub") (by kernel_rfl) fun s N F => ?_
      · have h32 : a = 32 := by simpa using hb
        refine Ev.eq (Ev.bin (Ev.name (x := "column") (by walk_at "sub")) Ev.int op_add) ?_
        unfold colStep; rw [if_pos h32]; rfl
      · have h32 : ¬ a = 32 := by simpa using hb
        have hdiv : Int.fdiv (τ : Int) ((1 + i : Nat) : Int) = ((τ / (1 + i) : Nat) : Int) := by rw [fdivP (by lia)]; rfl
        refine Ev.eq (Ev.bin (Ev.bin (Ev.bin (Ev.name (x := "column") (by walk_at "sub")) (Ev.name (x := "size") (by walk_at "sub")) (op_div (by lia) (by lia))) (Ev.name (x := "size") (by walk_at "sub")) (op_mul (IntMulOk.of_right (intBits_le_64 (by lia) (by lia))))) (Ev.name (x := "size") (by walk_at "sub")) op_add) ?_
        rw [hdiv]
        unfold colStep; rw [if_neg h32]; push_cast; rfl
      · refine wnil ⟨_, N, hstep.symm, F.sub (by walk_at "sub")⟩
    · intro τ s N hP' F
      have hll : (signs (S l)).length = l.length := by rw [signs_S, List.length_map]
      rw [hll, List.take_length] at hP'
      refine append_ (x := "columns") (cx' := [("word", .imm (.str (S (l ++ [c]))))]) F rm (Ev.name (x := "column") (by walk_at "sub")) (by walk_at "sub") (by kernel_rfl) (by rw [intsD_len, hP]; simp [sizeLine]; lia) fun s N F => ?_
      refine wnil ⟨σ ++ [τ], N, ?_, F.sub ?_⟩
      · rw [hP', hP, List.range_succ, List.map_append]; rfl
      · have : intsD (σ ++ [τ]) = intsD σ ++ [.int τ] := by simp [intsD]
        dsimp only
        rw [this]
        walk_at "sub"
  · intro σ s N hP F
    have hl5 : (rng 1 5).length = 5 := by simp [rng]
    rw [hl5] at hP
    obtain ⟨N', F⟩ := F.frz (by kernel_rfl)
    refine ret_ F rm (Ev.name (.head _)) fun v s N F r => ?_
    rw [hP] at r
    exact k v s N _ _ _ _ (Bse.Le.refl _) F r
theorem fn_columns (T : Tx G P) {l : List Nat} {c : Nat} (hl : LeadOk l) : Fn G 1 (.ref 167) [.str (S (l ++ [c]))] (.list (intsD (colsOf l))) :=
  Fn.of (ps := ["word"]) (T.fn 167 (by decide)) rfl (vs1 fun x => by kernel_rfl) rfl rfl rfl (by kernel_rfl) rfl rfl rfl (body_columns T hl)
end
end Mine
end
section
set_option tactic.hygienic false
open PySem PySem.W PyProof.Rows
namespace Mine
noncomputable def nestD (l : List (List Nat)) : D := .list (l.map fun r => .list (intsD r))
noncomputable def boolsD (l : List Bool) : D := .list (l.map .bool)
noncomputable def maxN (l : List Nat) : Nat := l.foldl max 0
noncomputable def underF (own : List (List Nat)) (kept : List Bool) (blanks : List Nat) : Nat → Nat → Nat
  | 0, _ => 0
  | f + 1, k => maxN ((own.getD k []).map fun m => blanks.getD m 0 + if kept.getD m false then 0 else underF own kept blanks f m)
theorem foldl_cast : ∀ (l : List Nat) (a : Nat), (l.map fun (k : Nat) => (k : Int)).foldl max (a : Int) = ((l.foldl max a : Nat) : Int)
  | [], a => rfl
  | x :: l, a => by
    rw [List.map_cons, List.foldl_cons, List.foldl_cons, ← foldl_cast l (max a x)]
    congr 1
    lia
theorem maxL_cast (l : List Nat) : maxL ((0 : Int) :: l.map fun (k : Nat) => (k : Int)) = (maxN l : Nat) := foldl_cast l 0
theorem getD_of {α : Type} {l : List α} {k : Nat} (d : α) (h : k < l.length) : l[k]? = some (l.getD k d) := by
  rw [List.getElem?_eq_getElem h, List.getD_eq_getElem?_getD, List.getElem?_eq_getElem h]; rfl
theorem intsD_get {l : List Nat} {k : Nat} (h : k < l.length) : (intsD l)[k]? = some (.int (l.getD k 0)) := by
  rw [intsD, List.getElem?_map, getD_of 0 h]; rfl
theorem boolsD_get {l : List Bool} {k : Nat} (h : k < l.length) : (l.map D.bool)[k]? = some (.bool (l.getD k false)) := by
  rw [List.getElem?_map, getD_of false h]; rfl
theorem nestD_get {l : List (List Nat)} {k : Nat} (h : k < l.length) : (l.map fun r => D.list (intsD r))[k]? = some (.list (intsD (l.getD k []))) := by
  rw [List.getElem?_map, getD_of [] h]; rfl
structure Own (own : List (List Nat)) (c : Nat) (r : Nat → Nat) : Prop where
  len : own.length = c
  c4 : c ≤ 4
  lt : ∀ k m, m ∈ own.getD k [] → m < c
  rk : ∀ k m, m ∈ own.getD k [] → r m < r k
  few : ∀ k, (own.getD k []).length ≤ 4
section
variable {G : Gs} {P : Params} {n : Nat} {A : Around} {sc : Scope} {cx : Cx}
set_option maxRecDepth 10000
theorem fn_under (T : Tx G P) {own : List (List Nat)} {kept : List Bool} {blanks : List Nat} {c : Nat} {r : Nat → Nat} (ho : Own own c r) (hk : kept.length = c) (hb : blanks.length = c) :
    ∀ (f k : Nat), r k < f → k < c → Fn G f (.ref 172) [nestD own, boolsD kept, .list (intsD blanks), .int k] (.int (underF own kept blanks f k))
  | 0, _, h, _ => absurd h (Nat.not_lt_zero _)
  | f + 1, k, hr, hkc => by
    refine Fn.of (n := f) (ps := ["own", "kept", "blanks", "k"]) (T.fn 172 (by decide)) rfl (vs4 fun x y z u => by kernel_rfl) rfl rfl rfl (by kernel_rfl) rfl rfl rfl ?_
    refine ⟨fun A env B s N rm F Q E kk => ?_⟩
    replace F : Fs G (fdP P 172).scope (ownNames (fdP P 172).scope) B [("own", .imm (nestD own)), ("kept", .imm (boolsD kept)), ("blanks", .imm (.list (intsD blanks))), ("k", .imm (.int k))] env s N := F
    have hc4 := ho.c4
    have hlen := ho.len
    refine ret_ F rm (Ev.callB (nm_bi T (by kernel_rfl) (by kernel_rfl) (by decide)) (EvL.cons (EvM.ev (EvM.eq (EvM.bin (EvM.ev (EvM.disp (EvL.cons (Ev.int (i := 0)) .nil) (by simp [sizeLine]))) (EvM.ev (EvM.map (own.getD k []) (fun (m : Nat) => .int m) (fun m => .int ((blanks.getD m 0 + if kept.getD m false then 0 else underF own kept blanks f m : Nat) : Int)) (fun m => [("m", .imm (.int m))]) [("own", .imm (nestD own)), ("kept", .imm (boolsD kept)), ("blanks", .imm (.list (intsD blanks)))]
      (EvI.list (Ev.item (Ev.name (x := "own") (d := nestD own) (by walk_at "sub")) (Ev.name (x := "k") (by walk_at "sub")) (it_list (by lia) (by rw [Int.toNat_natCast]; exact nestD_get (by lia)) (by lia)))) (by kernel_rfl) (by walk_at "sub") (fun m _ => Tgt.name (by kernel_rfl)) (fun m hm => ?_) (by have := ho.few k; simp only [sizeLine]; lia))) (op_addL (by have := ho.few k; simp only [List.length_map, List.length_cons, List.length_nil, sizeLine]; lia)))
      (d' := (((0 : Int) :: ((own.getD k []).map fun m => blanks.getD m 0 + if kept.getD m false then 0 else underF own kept blanks f m).map fun (k : Nat) => (k : Int)).map .int)) ?_)) .nil) fn_max) fun v s' N' F' rr => ?_
    · have hmc := ho.lt k m hm
      have hmr := ho.rk k m hm
      simp only [List.cons_append, List.nil_append]
      refine Ev.eq (Ev.bin (d2 := .int ((if kept.getD m false then 0 else underF own kept blanks f m : Nat) : Int)) (Ev.item (Ev.name (x := "blanks") (by walk_at "sub")) (Ev.name (x := "m") (by walk_at "sub")) (it_list (by lia) (by rw [Int.toNat_natCast]; exact intsD_get (by lia)) (by lia))) (Ev.ite (EvT.val (Ev.item (Ev.name (x := "kept") (d := boolsD kept) (by walk_at "sub")) (Ev.name (x := "m") (by walk_at "sub")) (it_list (by lia) (by rw [Int.toNat_natCast]; exact boolsD_get (by lia)) (by lia))) Tr.bool) (fun h => ?_) (fun h => ?_)) op_add) ?_
      · rw [h]; exact Ev.int (i := ((0 : Nat) : Int))
      · rw [h]
        exact Ev.call (nm_of (by kernel_rfl) (by kernel_rfl) T.under) (T.fn 172 (by decide)) (EvL.cons (Ev.name (x := "own") (d := nestD own) (by walk_at "sub")) (EvL.cons (Ev.name (x := "kept") (d := boolsD kept) (by walk_at "sub")) (EvL.cons (Ev.name (x := "blanks") (by walk_at "sub")) (EvL.cons (Ev.name (x := "m") (by walk_at "sub")) .nil)))) (fn_under T ho hk hb f m (by lia) hmc)
      · push_cast; rfl
    · simp [List.map_map, Function.comp_def]
    · rw [maxL_cast] at rr
      exact kk v s' N' _ _ _ _ (Bse.Le.refl _) F' rr
end
end Mine
end
section
set_option tactic.hygienic false
open PySem PySem.W PyProof.Rows
namespace Mine
section
variable {G : Gs} {P : Params} {n : Nat} {A : Around} {sc : Scope} {on : List Str} {cx : Cx} {env : Env} {s : Shared} {N : Lg}
theorem Fs.frc {B : Bse} {s₀ : Shared} {N₀ : Lg} {base : Heap} {l : List Env} (F : Fs G sc on B cx env s N) (hB : Bse.Le ⟨[], s₀, N₀⟩ B) (fc : FrC A base l s₀.heap) (hf : env.frame = some env.locals) : FrC (A.deeper env) base (env :: l) s.heap := by
  have g := F.toGr hB
  have fc' := fc.gr g
  refine ⟨?_, ⟨by rw [F.fk]; decide, ⟨env.locals, ?_⟩, fc'.ff⟩, fc'.st⟩
  · show A.frames.map (env :: ·) = _
    rw [fc.fr]; rfl
  · obtain ⟨m, o, es, ep, h1, h2, _⟩ := F.loc
    refine ⟨o, hf, Mine.StaysIn.miss fc.st ?_, h1, fun vs q => by rw [h2] at q; cases q⟩
    have := F.L0
    rw [hB.s] at this
    exact this
set_option maxRecDepth 10000
theorem fn_stripR (T : Tx G P) {m k : Nat} (hm : m ≤ 2) (hk : m < k) : FnR G 2 (.ref 35) [.str (blanks m), .int k] "IndexError" := by
  refine ⟨fun A s N vs base l rm ok hr fc Q E kE => ?_⟩
  refine call_fn (n := 1) (body := bodyOf (fdP P 35)) (ps := ["s", "amount"]) (E' := fun env e s1 => ∃ ea L, e = .ref ea ∧ env.frame = some L ∧ (∃ a0, Heap.HeldW base (env :: l) ea (.type "IndexError") a0 L s1.heap) ∧ s.heap.UpToSlots s1.heap ∧ s1.gens = s.gens ∧ s1.os = s.os) (T.fn 35 (by decide)) rfl (bind35 vs hr.length) rfl rfl rfl (by kernel_rfl) rfl rfl rfl rm ok hr ?_ ?_
  · rintro env e s1 ⟨ea, L, rfl, hf, ⟨a0, hh⟩, hu, hg, ho⟩
    unfold leaving
    refine wpAny_bind (wpAny_noteFrame_againW hf hh.2.2.2 ?_)
    refine wpAny_landsW hh fun h' hfl hu' => ?_
    obtain ⟨k1, k2, ⟨_, _, k3⟩, k4⟩ := hfl
    exact kE ea _ ⟨⟨a0, k1, k2, k3, k4⟩, hu.trans hu', hg, ho⟩
  · intro env s1 he rm' F
    have hfr : env.frame = some env.locals := by rw [he]; rfl
    replace F : Fs G (fdP P 35).scope (ownNames (fdP P 35).scope) ⟨[], s, N⟩ [("s", .imm (.str (blanks m))), ("amount", .imm (.int k))] env s1 N := F
    refine asg (x := "lpos") F rm' (Ev.int (i := ((0 : Nat) : Int))) (by kernel_rfl) fun s2 N2 F => ?_
    refine whileR (base := base) (l := l) (X := "IndexError") (L := env.locals) (fun i => [("lpos", .imm (.int i)), ("s", .imm (.str (blanks m))), ("amount", .imm (.int ((k : Int) - i)))]) m (F.sub ?_) rm' hfr (fun s' N' F => F.frc (Bse.Le.refl _) fc hfr) ?_ ?_ ?_ ?_
    · have e : (k : Int) - ((0 : Nat) : Int) = k := by lia
      simp only [e]; walk_at "sub"
    · intro i hi
      exact EvT.eq (EvT.and2 (EvT.val (Ev.name (x := "amount") (by walk_at "sub")) tr_int) fun _ => EvT.eq (EvT.cmp (Ev.item (Ev.name (x := "s") (by walk_at "sub")) (Ev.name (x := "lpos") (by walk_at "sub")) (it_str (fits_nat (i := i) (by lia)) (charAt_blanks (i := i) hi))) (Ev.str (x := " ")) cm_eqS) blank_eq) (by simp; lia)
    · intro i s N Q' E' hi F q
      refine aug F rm' (by walk_at "sub") Ev.int ip_add (cx' := [("s", .imm (.str (blanks m))), ("amount", .imm (.int ((k : Int) - i)))]) (by walk_at "sub") (by kernel_rfl) fun s N F => ?_
      refine aug F rm' (by walk_at "sub") Ev.int ip_sub (cx' := [("lpos", .imm (.int ((i : Int) + 1))), ("s", .imm (.str (blanks m)))]) (by walk_at "sub") (by kernel_rfl) fun s N F => ?_
      refine wnil (q s N (F.sub ?_))
      have e1 : ((i + 1 : Nat) : Int) = (i : Int) + 1 := by lia
      have e2 : (k : Int) - ((i + 1 : Nat) : Int) = (k : Int) - i - 1 := by lia
      simp only [e1]
      have e3 : (k : Int) - ((i : Int) + 1) = (k : Int) - i - 1 := by lia
      simp only [e3]
      walk_at "sub"
    · have hb : ((k : Int) - m != 0) = true := by simp; lia
      exact EvTR.and2 (EvT.eq (EvT.val (Ev.name (x := "amount") (d := .int ((k : Int) - m)) (by walk_at "sub")) tr_int) hb) (EvTR.item (Ev.name (x := "s") (by walk_at "sub")) (Ev.name (x := "lpos") (by walk_at "sub")) (by simp [blanks, Str.length]) (fits_nat (by lia)))
    · intro s N e s' F hh hu hg ho
      have g := F.toGr (Bse.Le.refl _)
      exact ⟨e, env.locals, rfl, hfr, hh, (Heap.UpToSlots.of_keeps g.keep).trans hu, hg.trans g.gens, ho.trans g.os⟩
end
end Mine
end
section
set_option tactic.hygienic false
open PySem PySem.W PyProof.Rows
namespace Mine
noncomputable def labD (l : List Nat) : D := .list (l.map fun m => .str (blanks m))
noncomputable def Small (l : List Nat) : Prop := ∀ k, l.getD k 0 ≤ 2
noncomputable def needN (below : List (List Nat)) (ms : List Nat) (k : Nat) : Nat := maxN ((below.getD k []).map fun m => ms.getD m 0)
noncomputable def lostN (below : List (List Nat)) (ms : List Nat) : List Nat := (List.range ms.length).map fun k => ms.getD k 0 - needN below ms k
theorem cmp_blanks : ∀ a, a ≤ 2 → ∀ b, b ≤ 2 → (0 < cmpS (blanks a) (blanks b) ↔ b < a) := by
  intro a ha b hb
  rcases (show a = 0 ∨ a = 1 ∨ a = 2 by lia) with rfl | rfl | rfl <;> rcases (show b = 0 ∨ b = 1 ∨ b = 2 by lia) with rfl | rfl | rfl <;> decide +kernel
theorem blanks_zero : blanks 0 = "" := by decide +kernel
theorem foldl_max2 : ∀ (l : List Nat), (∀ x ∈ l, x ≤ 2) → ∀ a, a ≤ 2 → l.foldl max a ≤ 2
  | [], _, a, h => h
  | x :: l, hl, a, h => by
    rw [List.foldl_cons]
    exact foldl_max2 l (fun y hy => hl y (.tail _ hy)) _ (by have := hl x (.head _); lia)
theorem longest_fold : ∀ (l : List Nat), (∀ x ∈ l, x ≤ 2) → ∀ a, a ≤ 2 → (l.map blanks).foldl (fun a l => if 0 < cmpS l a then l else a) (blanks a) = blanks (l.foldl max a)
  | [], _, a, h => rfl
  | x :: l, hl, a, h => by
    have hx := hl x (.head _)
    rw [List.map_cons, List.foldl_cons, List.foldl_cons, ← longest_fold l (fun y hy => hl y (.tail _ hy)) _ (by lia)]
    congr 1
    have := cmp_blanks x hx a h
    by_cases hc : a < x
    · rw [if_pos (this.mpr hc)]; congr 1; lia
    · rw [if_neg (fun q => hc (this.mp q))]; congr 1; lia
theorem longest_blanks {l : List Nat} (h : ∀ x ∈ l, x ≤ 2) : longestS (l.map blanks) = blanks (maxN l) := by
  unfold longestS maxN
  rw [← blanks_zero]; exact longest_fold l h 0 (by lia)
theorem blanks_len (m : Nat) : (blanks m).length = m := by simp [blanks, Str.length]
theorem labD_get {l : List Nat} {k : Nat} (h : k < l.length) : (l.map fun m => D.str (blanks m))[k]? = some (.str (blanks (l.getD k 0))) := by
  rw [List.getElem?_map, getD_of 0 h]; rfl
theorem needN_le {below : List (List Nat)} {ms : List Nat} (h : Small ms) (k : Nat) : needN below ms k ≤ 2 :=
  foldl_max2 _ (fun x hx => by obtain ⟨m, _, rfl⟩ := List.mem_map.mp hx; exact h m) 0 (by lia)
theorem enumD_get {ds : List D} {i : Nat} {d : D} (h : (enumD ds)[i]? = some d) : ∃ e, ds[i]? = some e ∧ d = pairD (.int i) e := by
  unfold enumD at h
  rw [List.getElem?_map] at h
  obtain ⟨p, h1, rfl⟩ := Option.map_eq_some_iff.mp h
  rw [List.getElem?_zip_eq_some] at h1
  obtain ⟨h2, h3⟩ := h1
  refine ⟨p.2, h3, ?_⟩
  have := (List.getElem?_eq_some_iff.mp h2).2
  rw [List.getElem_range] at this
  rw [this]
section
variable {G : Gs} {P : Params} {n : Nat} {A : Around} {sc : Scope} {cx : Cx}
set_option maxRecDepth 10000
theorem fn_longest (T : Tx G P) {ls : List Str} : Fn G 2 (.ref 179) [.list (ls.map .str)] (.str (longestS ls)) :=
  Fn.of (ps := ["labels"]) (T.fn 179 (by decide)) rfl (vs1 fun x => by kernel_rfl) rfl rfl rfl (by kernel_rfl) rfl rfl rfl (body_longest T)
noncomputable def lostD (below : List (List Nat)) (ms : List Nat) (i : Nat) : List D := (List.range i).map fun k => .str (blanks (ms.getD k 0 - needN below ms k))
noncomputable def enumAdd (d : D) : Cx := match d with
  | .tuple [a, b] => [("label", .imm b), ("k", .imm a)]
  | _ => []
theorem ev_amount (T : Tx G P) {own : List (List Nat)} {ms : List Nat} {c : Nat} {r : Nat → Nat} (ho : Own own c r) (hm : ms.length = c) (h2 : Small ms) {i : Nat} (hi : i < c) {cx : Cx}
    (c1 : (("labels" : Str), Ent.imm (labD ms)) ∈ cx) (c2 : (("below" : Str), Ent.imm (nestD own)) ∈ cx) (c3 : (("k" : Str), Ent.imm (.int (i : Int))) ∈ cx) {cp : Pos} {scope : Scope} {p1 p2 p3 p4 p5 p6 p7 p8 p9 p10 p11 : Pos}
    (hok : compOk scope (fdP P 184).scope cx [("labels", .imm (labD ms))] = true) (hm1 : canSt (relabelS scope (fdP P 184).scope) (ownNames scope) [] "m" = true) :
    Ev G 2 (fdP P 184).scope cx (.Call (.Name "len" p1) [.Call (.Name "_law_longest" p2) [.ListComp (.Subscript (.Name "labels" p3) (.Name "m" p4) p5) [⟨.Name "m" p6, .Subscript (.Name "below" p7) (.Name "k" p8) p9, [], 0⟩] scope cp] [] p10] [] p11) (.int (needN own ms i : Nat)) := by
  have hc4 := ho.c4
  have hlen := ho.len
  have hfew := ho.few i
  refine Ev.eq (Ev.callB (nm_bi T (by kernel_rfl) (by kernel_rfl) (by decide)) (EvL.cons (Ev.call (nm_of (by kernel_rfl) (by kernel_rfl) T.longest) (T.fn 179 (by decide)) (EvL.cons (EvM.ev (EvM.eq (EvM.map (own.getD i []) (fun (m : Nat) => .int m) (fun m => .str (blanks (ms.getD m 0))) (fun m => [("m", .imm (.int m))]) [("labels", .imm (labD ms))]
    (EvI.list (Ev.item (Ev.name (x := "below") (d := nestD own) c2) (Ev.name (x := "k") c3) (it_list (k := (i : Int)) (by lia) (by rw [Int.toNat_natCast]; exact nestD_get (by lia)) (by lia)))) hok (by intro q hq; rcases List.mem_singleton.mp hq with rfl; exact c1) (fun m _ => Tgt.name hm1) (fun m hmm => ?_) (by simp only [sizeLine]; lia))
    (d' := (((own.getD i []).map fun m => ms.getD m 0).map blanks).map .str) (by simp [List.map_map, Function.comp_def]))) .nil) (fn_longest T)) .nil) (fn_lenS ?_)) ?_
  · have hmc := ho.lt i m hmm
    simp only [List.cons_append, List.nil_append]
    exact Ev.item (Ev.name (x := "labels") (d := labD ms) (by walk_at "sub")) (Ev.name (x := "m") (by walk_at "sub")) (it_list (by lia) (by rw [Int.toNat_natCast]; exact labD_get (by lia)) (by lia))
  · rw [longest_blanks (fun x hx => by obtain ⟨m, _, rfl⟩ := List.mem_map.mp hx; exact h2 m), blanks_len]
    have := needN_le (below := own) h2 i
    unfold needN at this
    simp only [sizeLine]; lia
  · rw [longest_blanks (fun x hx => by obtain ⟨m, _, rfl⟩ := List.mem_map.mp hx; exact h2 m), blanks_len]; rfl
theorem fn_lost (T : Tx G P) {own : List (List Nat)} {ms : List Nat} {c : Nat} {r : Nat → Nat} (ho : Own own c r) (hm : ms.length = c) (h2 : Small ms) (hn : ∀ i, i < c → needN own ms i ≤ ms.getD i 0) : Fn G 3 (.ref 184) [nestD own, labD ms] (.list (lostD own ms c)) := by
  refine Fn.of (n := 2) (ps := ["below", "labels"]) (T.fn 184 (by decide)) rfl (vs2 fun x y => by kernel_rfl) rfl rfl rfl (by kernel_rfl) rfl rfl rfl ?_
  refine ⟨fun A env B s N rm F Q E k => ?_⟩
  have hc4 := ho.c4
  have hlen := ho.len
  replace F : Fs G (fdP P 184).scope (ownNames (fdP P 184).scope) B [("below", .imm (nestD own)), ("labels", .imm (labD ms))] env s N := F
  refine asgM (x := "lost") F rm (EvM.disp .nil (Nat.zero_le _)) (by kernel_rfl) fun s N F => ?_
  refine for_ (items := enumD (ms.map fun m => .str (blanks m))) (fun i (σ : List D) => σ = lostD own ms i) (fun σ => [("lost", .lst σ), ("below", .imm (nestD own)), ("labels", .imm (labD ms))]) enumAdd [] F rm
    (EvI.enum (nm_bi T (by kernel_rfl) (by kernel_rfl) (by decide)) (Ev.name (x := "labels") (d := labD ms) (by walk_at "sub"))) (fun q h => h) rfl ?_ ?_ ?_
  · intro i σ d _ hd
    obtain ⟨e, _, rfl⟩ := enumD_get hd
    exact Tgt.tuple2 (by kernel_rfl) (by kernel_rfl)
  · intro B' i σ d s N E' hB hP hd F
    obtain ⟨e, he, rfl⟩ := enumD_get hd
    have hic : i < c := by have := (List.getElem?_eq_some_iff.mp he).1; rw [List.length_map, hm] at this; exact this
    rw [labD_get (by lia)] at he
    cases he
    replace F : Fs G (fdP P 184).scope (ownNames (fdP P 184).scope) B' [("label", .imm (.str (blanks (ms.getD i 0)))), ("k", .imm (.int i)), ("lost", .lst σ), ("below", .imm (nestD own)), ("labels", .imm (labD ms))] env s N := F
    refine asg (x := "amount") F rm (ev_amount T ho hm h2 hic (by walk_at "sub") (by walk_at "sub") (by walk_at "sub") (by kernel_rfl) (by kernel_rfl)) (by kernel_rfl) fun s N F => ?_
    refine try_ fun E'' => ?_
    refine append_ (x := "lost") (cx' := [("amount", .imm (.int (needN own ms i : Nat))), ("label", .imm (.str (blanks (ms.getD i 0)))), ("k", .imm (.int i)), ("below", .imm (nestD own)), ("labels", .imm (labD ms))]) F rm (Ev.call (nm_of (by kernel_rfl) (by kernel_rfl) T.strip) (T.fn 35 (by decide)) (EvL.cons (Ev.name (x := "label") (by walk_at "sub")) (EvL.cons (Ev.name (x := "amount") (by walk_at "sub")) .nil)) (fn_strip T (h2 i) (hn i hic))) (by walk_at "sub") (by kernel_rfl) (by rw [hP]; simp [lostD, sizeLine]; lia) fun s N F => ?_
    refine wnil (wnil ⟨_, N, ?_, F.sub (by walk_at "sub")⟩)
    rw [hP]; simp only [lostD, List.range_succ, List.map_append]; rfl
  · intro σ s N hP F
    have hl : (enumD (ms.map fun m => D.str (blanks m))).length = c := by simp [enumD, hm]
    rw [hl] at hP
    subst hP
    obtain ⟨N', F⟩ := F.frz (by kernel_rfl)
    refine ret_ F rm (Ev.name (.head _)) fun v s N F r => ?_
    exact k v s N _ _ _ _ (Bse.Le.refl _) F r
theorem first_short : ∀ (c : Nat) (p : Nat → Prop), (∃ i, i < c ∧ p i) → ∃ i, i < c ∧ p i ∧ ∀ j, j < i → ¬ p j
  | 0, p, ⟨i, h, _⟩ => absurd h (Nat.not_lt_zero _)
  | c + 1, p, ⟨i, h, hp⟩ => by
    by_cases q : ∃ i, i < c ∧ p i
    · obtain ⟨j, h1, h2, h3⟩ := first_short c p q
      exact ⟨j, by lia, h2, h3⟩
    · refine ⟨i, h, hp, fun j hj hpj => q ⟨j, by lia, hpj⟩⟩
theorem fn_lostN (T : Tx G P) {own : List (List Nat)} {ms : List Nat} {c : Nat} {r : Nat → Nat} (ho : Own own c r) (hm : ms.length = c) (h2 : Small ms) (hn : ∃ i, i < c ∧ ms.getD i 0 < needN own ms i) : FnN G 3 (.ref 184) [nestD own, labD ms] := by
  obtain ⟨i0, hi0, hlt0, hmin⟩ := first_short c _ hn
  refine ⟨fun A s N vs base l rm ok hr fc hb Q E k => ?_⟩
  have hc4 := ho.c4
  have hlen := ho.len
  refine call_fn (n := 2) (body := bodyOf (fdP P 184)) (ps := ["below", "labels"]) (E' := fun _ _ _ => False) (T.fn 184 (by decide)) rfl (vs2 (C := fun vs => bindArgs (fdP P 184) ⟨vs, []⟩ = pure (((["below", "labels"] : List Str)).zip vs)) (fun x y => by kernel_rfl) vs hr.length) rfl rfl rfl (by kernel_rfl) rfl rfl rfl rm ok hr (fun _ _ _ z => z.elim) ?_
  intro env s1 he rm' F
  have hfr : env.frame = some env.locals := by rw [he]; rfl
  replace F : Fs G (fdP P 184).scope (ownNames (fdP P 184).scope) ⟨[], s, N⟩ [("below", .imm (nestD own)), ("labels", .imm (labD ms))] env s1 N := F
  refine asgM (x := "lost") F rm' (EvM.disp .nil (Nat.zero_le _)) (by kernel_rfl) fun s2 N2 F => ?_
  refine for_ (items := enumD (ms.map fun m => .str (blanks m))) (fun i (σ : List D) => i ≤ i0 ∧ σ = lostD own ms i) (fun σ => [("lost", .lst σ), ("below", .imm (nestD own)), ("labels", .imm (labD ms))]) enumAdd [] F rm'
    (EvI.enum (nm_bi T (by kernel_rfl) (by kernel_rfl) (by decide)) (Ev.name (x := "labels") (d := labD ms) (by walk_at "sub"))) (fun q h => h) ⟨Nat.zero_le _, rfl⟩ ?_ ?_ ?_
  · intro i σ d _ hd
    obtain ⟨e, _, rfl⟩ := enumD_get hd
    exact Tgt.tuple2 (by kernel_rfl) (by kernel_rfl)
  · rintro B' i σ d s3 N3 E' hB ⟨hP0, hP⟩ hd F
    obtain ⟨e, he, rfl⟩ := enumD_get hd
    have hic : i < c := by have := (List.getElem?_eq_some_iff.mp he).1; rw [List.length_map, hm] at this; exact this
    rw [labD_get (by lia)] at he
    cases he
    replace F : Fs G (fdP P 184).scope (ownNames (fdP P 184).scope) B' [("label", .imm (.str (blanks (ms.getD i 0)))), ("k", .imm (.int i)), ("lost", .lst σ), ("below", .imm (nestD own)), ("labels", .imm (labD ms))] env s3 N3 := F
    refine asg (x := "amount") F rm' (ev_amount T ho hm h2 hic (by walk_at "sub") (by walk_at "sub") (by walk_at "sub") (by kernel_rfl) (by kernel_rfl)) (by kernel_rfl) fun s4 N4 F => ?_
    by_cases hi : i = i0
    · subst hi
      have fc4 := F.frc hB fc hfr
      refine tryNone (base := base) (l := l) (nm_bi T (by kernel_rfl) (by kernel_rfl) (by decide)) F.envOk fc4.fr hfr rm'.handled hb (fun Q' E'' q => ?_) fun s5 g1 g2 g3 g4 => ?_
      · refine appendR (X := "IndexError") (ds := σ) F rm' fc4 (EvR'.call (nm_of (by kernel_rfl) (by kernel_rfl) T.strip) (T.fn 35 (by decide)) (EvL.cons (Ev.name (x := "label") (by walk_at "sub")) (EvL.cons (Ev.name (x := "amount") (by walk_at "sub")) .nil)) (fn_stripR T (h2 i) hlt0)) (by walk_at "sub") fun e s' fl => q e s' fl
      · have g := F.toGr hB
        exact k s5 g1 ((Heap.UpToSlots.of_keeps g.keep).trans g2) (g3.trans g.gens) (g4.trans g.os)
    · refine try_ fun E'' => ?_
      have hlt : i < i0 := by lia
      have hle : needN own ms i ≤ ms.getD i 0 := by have := hmin i hlt; lia
      refine append_ (x := "lost") (cx' := [("amount", .imm (.int (needN own ms i : Nat))), ("label", .imm (.str (blanks (ms.getD i 0)))), ("k", .imm (.int i)), ("below", .imm (nestD own)), ("labels", .imm (labD ms))]) F rm' (Ev.call (nm_of (by kernel_rfl) (by kernel_rfl) T.strip) (T.fn 35 (by decide)) (EvL.cons (Ev.name (x := "label") (by walk_at "sub")) (EvL.cons (Ev.name (x := "amount") (by walk_at "sub")) .nil)) (fn_strip T (h2 i) hle)) (by walk_at "sub") (by kernel_rfl) (by rw [hP]; simp [lostD, sizeLine]; lia) fun s N F => ?_
      refine wnil (wnil ⟨_, N, ⟨hlt, ?_⟩, F.sub (by walk_at "sub")⟩)
      rw [hP]; simp only [lostD, List.range_succ, List.map_append]; rfl
  · rintro σ s N ⟨hP, _⟩ F
    have hl : (enumD (ms.map fun m => D.str (blanks m))).length = c := by simp [enumD, hm]
    rw [hl] at hP
    lia
end
end Mine
end
section
set_option tactic.hygienic false
open PySem PySem.W PyProof.Rows
namespace Mine
noncomputable def lamOf : List Stmt → Option (Arguments × Expr × Scope)
  | [_, .Assign _ (.Lambda ps e sc _) _, _] => some (ps, e, sc)
  | _ => none
structure Lexer where
  x : Addr
  dx : Addr
  pb : Addr
  lf : Addr
  st : Addr
  fl : Addr
  c : Addr
  cd : Addr
  pm : Value
  ctv : Value
  qual : Str
  clo : List (Str × Addr)
noncomputable def Lexer.fd (P : Params) (L : Lexer) : FuncData := match lamOf (bodyOf (fdP P 150)) with
  | some (ps, e, sc) => kla_fn "<lambda>" L.qual ps e sc L.clo L.pm (.ref L.cd) L.ctv
  | none => default
noncomputable def wsText : Str := "\n\t\r "
noncomputable def streamD (L : Lexer) : D := .obj 73 ["read", "pushback", "whitespace", "instream", "lineno"] [.ref L.fl, .list [], .str wsText, .none, .int 1]
structure LexAt (P : Params) (N : Lg) (L : Lexer) : Prop where
  inst : ∃ o, N L.x o ∧ (o.cls = .ref 73 ∧ o.dict = some L.dx ∧ o.data = .plain)
  st : Rp N (.ref L.st) (streamD L)
  fn : FnAt N L.fl (L.fd P)
  cell : ∃ o, N L.c o ∧ o.data = .cell (some (.ref L.lf))
  clo : L.clo.lookup ("left" : Str) = some L.c
  d1 : L.dx ≠ L.pb
  d2 : L.dx ≠ L.lf
  d3 : L.pb ≠ L.lf
theorem FnAt.mono {N N' : Lg} (hs : ∀ a o, N a o → N' a o) {a : Addr} {fd : FuncData} (h : FnAt N a fd) : FnAt N' a fd := by
  obtain ⟨⟨o, h1, h2⟩, c, oc, vs, t, h3, h4, h5⟩ := h
  exact ⟨⟨o, hs _ _ h1, h2⟩, c, oc, vs, t, h3, hs _ _ h4, h5⟩
theorem LexAt.mono {P : Params} {N N' : Lg} {L : Lexer} (hs : ∀ a o, N a o → N' a o) (h : LexAt P N L) : LexAt P N' L :=
  { h with inst := let ⟨o, a, b⟩ := h.inst; ⟨o, hs _ _ a, b⟩, st := h.st.mono hs, fn := h.fn.mono hs, cell := let ⟨o, a, b⟩ := h.cell; ⟨o, hs _ _ a, b⟩ }
structure LexMap (L : Lexer) (m : Str → Option Value) (ln : Nat) : Prop where
  lineno : ∃ t, m "lineno" = some (.int ln t)
  instream : m "instream" = some (.ref L.st)
  ws : ∃ t, m "whitespace" = some (.str wsText t)
  pb : m "pushback" = some (.ref L.pb)
  no : ∀ y ∈ (["get_token", "push_token", "_read_char"] : List Str), m y = none
noncomputable def signD (l : List Nat) : List D := l.map fun a => .str (S [a])
noncomputable def strD (l : List Str) : List D := l.map .str
inductive WLp (P : Params) (L : Lexer) (k : Nat) (ln : Nat) (pbs : List Str) (left : List Nat) (N : Lg) (X : Xs) : Prop
  | mk (h0 : LexAt P N L) (od : Obj) (pv lv : List Value) (m : Str → Option Value) (nn n1 n2 : Nat) (h1 : X = [(L.dx, od), (L.pb, listOf (List.toArray pv) n1), (L.lf, listOf (List.toArray lv) n2)]) (h2 : DK od m nn) (h3 : nn + left.length + k ≤ 900) (h4 : LexMap L m ln) (h5 : Rps N pv (strD pbs)) (h6 : Rps N lv (signD left))
noncomputable def WL (P : Params) (L : Lexer) (k : Nat) (ln : Nat) (pbs : List Str) (left : List Nat) : Wd where
  P := WLp P L k ln pbs left
  mono := fun hs ⟨h, od, pv, lv, m, nn, n1, n2, h1, h2, h3, h4, h5, h6⟩ => ⟨h.mono hs, od, pv, lv, m, nn, n1, n2, h1, h2, h3, h4, h5.mono hs, h6.mono hs⟩
section
variable {G : Gs} {P : Params} {n : Nat} {A : Around} {sc : Scope} {cx : Cx} {L : Lexer} {k ln : Nat} {pbs : List Str} {left : List Nat}
theorem WL.has {name : Str} {d : D} (h : ∀ N m, LexAt P N L → LexMap L m ln → ∃ v, m name = some v ∧ Rp N v d) : HasA (WL P L k ln pbs left) L.x 73 name d := by
  refine ⟨fun N X ⟨h0, od, pv, lv, m, nn, n1, n2, h1, h2, h3, h4, h5, h6⟩ => ?_⟩
  obtain ⟨o, i1, i2⟩ := h0.inst
  obtain ⟨v, v1, v2⟩ := h N m h0 h4
  exact ⟨L.dx, o, od, m, nn, v, i1, i2, by rw [h1]; exact .head _, h2, v1, v2⟩
theorem WL.lineno : HasA (WL P L k ln pbs left) L.x 73 "lineno" (.int ln) := WL.has fun N m _ h => let ⟨t, e⟩ := h.lineno; ⟨_, e, .int _ _⟩
theorem WL.instream : HasA (WL P L k ln pbs left) L.x 73 "instream" (streamD L) := WL.has fun N m h0 h => ⟨_, h.instream, h0.st⟩
theorem WL.ws : HasA (WL P L k ln pbs left) L.x 73 "whitespace" (.str wsText) := WL.has fun N m _ h => let ⟨t, e⟩ := h.ws; ⟨_, e, .str _ _⟩
theorem WL.pback : HasA (WL P L k ln pbs left) L.x 73 "pushback" (.ref L.pb) := WL.has fun N m _ h => ⟨_, h.pb, .ref _⟩
theorem WL.hasI : HasI (WL P L k ln pbs left) L.x 73 ["get_token", "push_token", "_read_char"] := by
  refine ⟨fun N X ⟨h0, od, pv, lv, m, nn, n1, n2, h1, h2, h3, h4, h5, h6⟩ => ?_⟩
  obtain ⟨o, i1, i2⟩ := h0.inst
  exact ⟨L.dx, o, od, m, nn, i1, i2, by rw [h1]; exact .head _, h2, h4.no⟩
theorem WL.put {ln' : Nat} : PutA (WL P L (k + 1) ln pbs left) L.x 73 "lineno" (.int ln') (WL P L k ln' pbs left) := by
  refine ⟨fun N X ⟨h0, od, pv, lv, m, nn, n1, n2, h1, h2, h3, h4, h5, h6⟩ => ?_⟩
  obtain ⟨o, i1, i2⟩ := h0.inst
  refine ⟨[], [(L.pb, listOf (List.toArray pv) n1), (L.lf, listOf (List.toArray lv) n2)], L.dx, o, od, m, nn, h1, fun p hp => ?_, i1, i2, h2, by lia, fun od' v r hd => ?_⟩
  · simp only [List.nil_append, List.mem_cons, List.not_mem_nil, or_false] at hp
    rcases hp with rfl | rfl
    · exact h0.d1.symm
    · exact h0.d2.symm
  · cases r with | int _ t =>
    have h3' : nn + 1 + left.length + k ≤ 900 := by lia
    refine ⟨h0, od', pv, lv, _, nn + 1, n1, n2, rfl, hd, h3', ⟨⟨t, if_pos rfl⟩, ?_, ?_, ?_, fun y hy => ?_⟩, h5, h6⟩
    · rw [if_neg (by decide)]; exact h4.instream
    · obtain ⟨t', e⟩ := h4.ws; exact ⟨t', by rw [if_neg (by decide)]; exact e⟩
    · rw [if_neg (by decide)]; exact h4.pb
    · have hne : y ≠ "lineno" := by
        simp only [List.mem_cons, List.not_mem_nil, or_false] at hy
        rcases hy with rfl | rfl | rfl <;> decide
      rw [if_neg hne]; exact h4.no y hy
theorem WL.weak {N : Lg} {X : Xs} (h : (WL P L (k + 1) ln pbs left).P N X) : (WL P L k ln pbs left).P N X := by
  obtain ⟨h0, od, pv, lv, m, nn, n1, n2, h1, h2, h3, h4, h5, h6⟩ := h
  exact ⟨h0, od, pv, lv, m, nn, n1, n2, h1, h2, by lia, h4, h5, h6⟩
theorem WX.weak {W W' : Wd} {N : Lg} {X Y : Xs} (w : WX W N X Y) (h : ∀ N X, W.P N X → W'.P N X) : WX W' N X Y := ⟨h _ _ w.p, w.nc, w.ap⟩
theorem FnXC.weak {f : Value} {args : List D} {W W' W'' : Wd} {d : D} (h : FnXC G n f args W W' d) (k : ∀ N X, W'.P N X → W''.P N X) : FnXC G n f args W W'' d :=
  ⟨fun A s N vs X rm ok hx hw hr Q E q => h.go A s N vs X rm ok hx hw hr Q E fun v s' N' X' g w r => q v s' N' X' g (k _ _ w) r⟩
theorem EvX.weak {e : Expr} {W W' W'' : Wd} {d : D} (h : EvX G n sc cx W e W' d) (k : ∀ N X, W'.P N X → W''.P N X) : EvX G n sc cx W e W'' d :=
  ⟨fun A env s N X rm z hx hw Q E q => h.go A env s N X rm z hx hw Q E fun v s' N' X' g w r => q v s' N' X' g (k _ _ w) r⟩
theorem WL.pop {c : Nat} : ChL (WL P L k ln pbs (c :: left)) L.lf (signD (c :: left)) (signD left) (WL P L (k + 1) ln pbs left) := by
  refine ⟨fun N X ⟨h0, od, pv, lv, m, nn, n1, n2, h1, h2, h3, h4, h5, h6⟩ => ?_⟩
  refine ⟨[(L.dx, od), (L.pb, listOf (List.toArray pv) n1)], [], lv, n2, h1, fun p hp => ?_, h6, fun N' ws n' hs r => ⟨h0.mono hs, od, pv, ws, m, nn, n1, n', rfl, h2, by simp at h3; lia, h4, h5.mono hs, r⟩⟩
  simp only [List.append_nil, List.mem_cons, List.not_mem_nil, or_false] at hp
  rcases hp with rfl | rfl
  · exact h0.d2
  · exact h0.d3
theorem WL.ppb {pbs' : List Str} : ChL (WL P L k ln pbs left) L.pb (strD pbs) (strD pbs') (WL P L k ln pbs' left) := by
  refine ⟨fun N X ⟨h0, od, pv, lv, m, nn, n1, n2, h1, h2, h3, h4, h5, h6⟩ => ?_⟩
  refine ⟨[(L.dx, od)], [(L.lf, listOf (List.toArray lv) n2)], pv, n1, h1, fun p hp => ?_, h5, fun N' ws n' hs r => ⟨h0.mono hs, od, ws, lv, m, nn, n', n2, rfl, h2, h3, h4, r, h6.mono hs⟩⟩
  simp only [List.cons_append, List.nil_append, List.mem_cons, List.not_mem_nil, or_false] at hp
  rcases hp with rfl | rfl
  · exact h0.d1
  · exact h0.d3.symm
theorem WL.see {x : Str} (h : (x, Ent.imm (.ref L.lf)) ∈ cx) : Seen (WL P L k ln pbs left) cx ((x, .imm (.list (signD left))) :: cx) := by
  intro N X ⟨h0, od, pv, lv, m, nn, n1, n2, h1, h2, h3, h4, h5, h6⟩ y t hy
  rcases List.mem_cons.mp hy with e | hy
  · cases e
    exact .inr ⟨_, _, rfl, h, .list (o := listOf (List.toArray lv) n2) (n := n2) (.inr (by rw [h1]; simp)) rfl rfl (h6.mono fun _ _ e => .inl e)⟩
  · exact .inl hy
set_option maxRecDepth 10000
noncomputable abbrev lamE (P : Params) : Expr := match lamOf (bodyOf (fdP P 150)) with
  | some (_, e, _) => e
  | none => .Constant .none 0 default
theorem lam_body (P : Params) (L : Lexer) : (L.fd P).body = .expr (lamE P) := rfl
noncomputable abbrev lamSc (P : Params) : Scope := match lamOf (bodyOf (fdP P 150)) with
  | some (_, _, s) => s
  | none => default
theorem lam_scope (P : Params) (L : Lexer) : (L.fd P).scope = lamSc P := rfl
theorem lam_bind (P : Params) (L : Lexer) (vs : List Value) (h : vs.length = 1) : bindArgs (L.fd P) ⟨vs, []⟩ = Pure.pure ((["size"] : List Str).zip vs) := by
  revert vs; exact vs1 fun x => by kernel_rfl
end
end Mine
end
section
set_option tactic.hygienic false
open PySem PySem.W PyProof.Rows
namespace Mine
section
variable {G : Gs} {P : Params} {n : Nat} {A : Around} {sc : Scope} {cx : Cx} {L : Lexer} {k ln : Nat} {pbs : List Str} {left : List Nat}
theorem EvR.pure {W : Wd} {e : Expr} {d : D} (h : Ev G n sc cx e d) : EvR G n sc cx W e d :=
  ⟨fun A env s N X rm z hx hw Q E k => (h.go A env s N rm z).go _ _ fun v s1 N1 g r => k v s1 N1 g r⟩
theorem signD_len (l : List Nat) : (signD l).length = l.length := by simp [signD]
theorem lam_clo {P : Params} {L : Lexer} {k ln : Nat} {pbs : List Str} {left : List Nat} {N : Lg} {X : Xs} (h : (WL P L k ln pbs left).P N X) : ∀ q ∈ ([("left", .imm (.ref L.lf))] : Cx), okName q.1 = true ∧ (L.fd P).scope.names.lookup q.1 = some .free ∧ ∃ c o v d, (L.fd P).closure.lookup q.1 = some c ∧ N c o ∧ o.data = .cell (some v) ∧ q.2 = .imm d ∧ Rp N v d := by
  intro q hq
  rcases List.mem_singleton.mp hq with rfl
  obtain ⟨h0, _⟩ := h
  obtain ⟨o, h1, h2⟩ := h0.cell
  exact ⟨by kernel_rfl, by kernel_rfl, L.c, o, _, _, h0.clo, h1, h2, rfl, .ref _⟩
set_option maxRecDepth 10000
theorem fn_read_nil (T : Tx G P) : FnXC G 1 (.ref L.fl) [.int 1] (WL P L k ln pbs []) (WL P L k ln pbs []) (.str "") := by
  refine FnXC.lam (n := 0) (ps := ["size"]) (cxc := [("left", .imm (.ref L.lf))]) (fun N X h => h.1.fn) (lam_body P L) (lam_bind P L) rfl rfl (by kernel_rfl) (fun N X h => lam_clo h) ?_
  refine EvR.x (EvR.read (cx' := [("left", .imm (.list [])), ("size", .imm (.int 1))]) (fun N X hw x t hx => ?_) ?_ rfl)
  · rcases List.mem_cons.mp hx with e | hx
    · cases e
      obtain ⟨h0, od, pv, lv, m, nn, n1, n2, h1, h2, h3, h4, h5, h6⟩ := hw
      exact .inr ⟨L.lf, .list [], rfl, by show _ ∈ ([("size", .imm (.int 1)), ("left", .imm (.ref L.lf))] : Cx); walk_at "sub", .list (o := listOf (List.toArray lv) n2) (n := n2) (.inr (by rw [h1]; simp)) rfl rfl (h6.mono fun _ _ e => .inl e)⟩
    · rcases List.mem_singleton.mp hx with e
      cases e
      exact .inl (.head _)
  · show Ev G 0 (lamSc P) _ (lamE P) _
    refine Ev.eq (Ev.meth1 mt_join (Ev.str (x := "")) (EvL.cons (EvM.ev (EvM.eq (EvM.map (List.range 0) (fun (i : Nat) => .int (0 + i)) (fun _ => .str (S [])) (fun i => [("k", .imm (.int (0 + (i : Nat))))]) [("left", .imm (.list []))]
      (EvI.range1 (k := 0) (b := 0) (nm_bi T (by kernel_rfl) (by kernel_rfl) (by decide)) (Ev.eq (Ev.callB (nm_bi T (by kernel_rfl) (by kernel_rfl) (by decide)) (EvL.cons (Ev.name (x := "size") (d := .int 1) (by walk_at "sub")) (EvL.cons (Ev.callB (nm_bi T (by kernel_rfl) (by kernel_rfl) (by decide)) (EvL.cons (Ev.name (x := "left") (d := .list []) (by walk_at "sub")) .nil) (fn_lenL (Nat.zero_le _))) .nil)) fn_min2) rfl) (by decide) (by decide) (by decide)) (by kernel_rfl) (by walk_at "sub") (fun m hm => by simp at hm) (fun m hm => by simp at hm) (Nat.zero_le _))
      (d' := (([] : List (List Nat)).map S).map .str) rfl)) .nil) (fn_join (joinOk_S (by simp)))) ?_
    rw [join_S]; rfl
theorem fn_read (T : Tx G P) {c : Nat} (hl : left.length ≤ 300) : FnXC G 1 (.ref L.fl) [.int 1] (WL P L k ln pbs (c :: left)) (WL P L (k + 1) ln pbs left) (.str (S [c])) := by
  refine FnXC.lam (n := 0) (ps := ["size"]) (cxc := [("left", .imm (.ref L.lf))]) (fun N X h => h.1.fn) (lam_body P L) (lam_bind P L) rfl rfl (by kernel_rfl) (fun N X h => lam_clo h) ?_
  show EvX G 0 (lamSc P) ([("size", .imm (.int 1)), ("left", .imm (.ref L.lf))] : Cx) _ (lamE P) _ _
  have hjoin : Txt.join "" ([[c]].map S) = S [c] := by rw [join_S]; rfl
  rw [← hjoin]
  refine EvX.smeth1 (d1 := .list (([[c]].map S).map .str)) mt_join (Ev.str (x := "")) (EvX.map (List.range 1) (fun (i : Nat) => .int (0 + i)) (fun _ => .str (S [c])) (fun i => match i with | 0 => WL P L k ln pbs (c :: left) | _ + 1 => WL P L (k + 1) ln pbs left) (fun i => [("k", .imm (.int (0 + (i : Nat))))]) [("left", .imm (.ref L.lf))]
      (EvIX.range1 (k := 1) (b := 1) (nm_bi T (by kernel_rfl) (by kernel_rfl) (by decide)) (EvR.read (WL.see (by walk_at "sub")) (Ev.eq (Ev.callB (nm_bi T (by kernel_rfl) (by kernel_rfl) (by decide)) (EvL.cons (Ev.name (x := "size") (d := .int 1) (by walk_at "sub")) (EvL.cons (Ev.callB (nm_bi T (by kernel_rfl) (by kernel_rfl) (by decide)) (EvL.cons (Ev.name (x := "left") (d := .list (signD (c :: left))) (by walk_at "sub")) .nil) (fn_lenL (by rw [signD_len]; simp [sizeLine]; lia))) .nil)) fn_min2) ?_) rfl) (by decide) (by decide) (by decide)) (by kernel_rfl) (by walk_at "sub") (fun q hq => by rcases List.mem_singleton.mp hq with rfl; exact ⟨_, rfl⟩) (fun m hm => Tgt.name (by kernel_rfl)) (fun i x hx => ?_) (by simp [sizeLine])) (fn_join (joinOk_S (by simp)))
  · rw [signD_len]; congr 1; simp; lia
  · have hi : i < 1 := by simpa using (List.getElem?_eq_some_iff.mp hx).1
    obtain rfl : i = 0 := by lia
    simp only [List.cons_append, List.nil_append]
    refine EvX.pop0 (ds := signD left) (EvR.pure (Ev.name (x := "left") (by walk_at "sub"))) WL.pop (by rw [signD_len]; simp [sizeLine]; lia)
end
end Mine
end
section
set_option tactic.hygienic false
open PySem PySem.W PyProof.Rows
namespace Mine
section
variable {G : Gs} {P : Params} {n : Nat} {A : Around} {sc : Scope} {cx : Cx} {L : Lexer} {k ln : Nat} {pbs : List Str} {left : List Nat}
set_option maxRecDepth 10000
theorem nl_is : ("\n" : Str) = S [10] := by decide +kernel
theorem empty_S : ("" : Str) = S [] := rfl
theorem fn_rc_nil (T : Tx G P) : FnXC G 2 (.ref 56) [.ref L.x] (WL P L k ln pbs []) (WL P L k ln pbs []) (.str "") := by
  refine FnXC.of (n := 1) (ps := ["self"]) (T.fn 56 (by decide)) rfl (vs1 fun x => by kernel_rfl) rfl rfl rfl (by kernel_rfl) rfl rfl rfl ?_
  refine ⟨fun A env s₀ N₀ X Y s N rm w F Q E q => ?_⟩
  replace F : Fs G (fdP P 56).scope (ownNames (fdP P 56).scope) ⟨X ++ Y, s₀, N₀⟩ [("self", .imm (.ref L.x))] env s N := F
  refine asgX (x := "ch") w F rm (cx0 := [("self", .imm (.ref L.x))]) (by walk_at "sub") (EvX.ownCall (ds := [.ref L.fl, .list [], .str wsText, .none, .int 1]) (ks := ["read", "pushback", "whitespace", "instream", "lineno"]) (EvR.attr (Ev.name (x := "self") (by walk_at "sub")) (by rw [T.frag]; kernel_rfl) WL.instream) (by rw [T.frag]; kernel_rfl) (by rw [T.frag]; kernel_rfl) (by kernel_rfl) (fun N X h => h.1.fn) Ev.int (fn_read_nil T).x) (cx' := [("self", .imm (.ref L.x))]) (by walk_at "sub") (by kernel_rfl) fun s N X1 w1 a1 l1 F => ?_
  refine ifX (cx0 := [("ch", .imm (.str "")), ("self", .imm (.ref L.x))]) (b := false) w1 F rm (by walk_at "sub") (EvTX.pure (EvT.eq (EvT.cmp (Ev.name (x := "ch") (by walk_at "sub")) (Ev.str (x := "\n")) cm_eqS) (by decide +kernel))) (fun h => nomatch h) (fun _ s N F => ?_)
  refine wnil ?_
  refine retX (cx0 := [("ch", .imm (.str "")), ("self", .imm (.ref L.x))]) w1 F rm (by walk_at "sub") (EvX.pure (Ev.name (x := "ch") (by walk_at "sub"))) fun v s N X2 w2 a2 l2 F r => ?_
  exact q _ s N _ X2 Y _ _ _ w2 (all_trans a1 a2) (l1.trans l2) F r
noncomputable def lnOf (ln c : Nat) : Nat := if c = 10 then ln + 1 else ln
theorem nl_is' : ("\n" : Str) = ⟨#[10]⟩ := by decide +kernel
theorem fn_rc (T : Tx G P) {c : Nat} (hl : left.length ≤ 300) : FnXC G 2 (.ref 56) [.ref L.x] (WL P L k ln pbs (c :: left)) (WL P L k (lnOf ln c) pbs left) (.str (S [c])) := by
  refine FnXC.of (n := 1) (ps := ["self"]) (T.fn 56 (by decide)) rfl (vs1 fun x => by kernel_rfl) rfl rfl rfl (by kernel_rfl) rfl rfl rfl ?_
  refine ⟨fun A env s₀ N₀ X Y s N rm w F Q E q => ?_⟩
  replace F : Fs G (fdP P 56).scope (ownNames (fdP P 56).scope) ⟨X ++ Y, s₀, N₀⟩ [("self", .imm (.ref L.x))] env s N := F
  refine asgX (x := "ch") w F rm (cx0 := [("self", .imm (.ref L.x))]) (by walk_at "sub") (EvX.ownCall (ds := [.ref L.fl, .list [], .str wsText, .none, .int 1]) (ks := ["read", "pushback", "whitespace", "instream", "lineno"]) (EvR.attr (Ev.name (x := "self") (by walk_at "sub")) (by rw [T.frag]; kernel_rfl) WL.instream) (by rw [T.frag]; kernel_rfl) (by rw [T.frag]; kernel_rfl) (by kernel_rfl) (fun N X h => h.1.fn) Ev.int (fn_read T hl).x) (cx' := [("self", .imm (.ref L.x))]) (by walk_at "sub") (by kernel_rfl) fun s N X1 w1 a1 l1 F => ?_
  refine ifX (cx0 := [("ch", .imm (.str (S [c]))), ("self", .imm (.ref L.x))]) w1 F rm (by walk_at "sub") (EvTX.pure (EvT.eq (EvT.cmp (Ev.name (x := "ch") (d := .str (S [c])) (by walk_at "sub")) (Ev.str (x := "\n")) cm_eqS) (sign_eq c _ 10 nl_is'))) (fun hb s N F => ?_) (fun hb s N F => ?_)
  · have hc : c = 10 := by simpa using hb
    have e1 : (ln : Int) + 1 = ((ln + 1 : Nat) : Int) := by lia
    refine augX (cx0 := [("self", .imm (.ref L.x))]) w1 F rm (by walk_at "sub") (Ev.name (x := "self") (by walk_at "sub")) (by rw [T.frag]; kernel_rfl) WL.lineno (Ev.int (i := 1)) (e1 ▸ ip_add) (by rw [T.frag]; kernel_rfl) WL.put fun s N X2 w2 a2 l2 F => ?_
    refine wnil ?_
    refine retX (cx0 := [("ch", .imm (.str (S [c]))), ("self", .imm (.ref L.x))]) w2 F rm (by walk_at "sub") (EvX.pure (Ev.name (x := "ch") (by walk_at "sub"))) fun v s N X3 w3 a3 l3 F r => ?_
    refine q _ s N _ X3 Y _ _ _ (w3.weak fun N X h => ?_) (all_trans (all_trans a1 a2) a3) ((l1.trans l2).trans l3) F r
    unfold lnOf; rw [if_pos hc]; exact h
  · have hc : ¬ c = 10 := by simpa using hb
    refine wnil ?_
    refine retX (cx0 := [("ch", .imm (.str (S [c]))), ("self", .imm (.ref L.x))]) w1 F rm (by walk_at "sub") (EvX.pure (Ev.name (x := "ch") (by walk_at "sub"))) fun v s N X3 w3 a3 l3 F r => ?_
    refine q _ s N _ X3 Y _ _ _ (w3.weak fun N X h => ?_) (all_trans a1 a3) (l1.trans l3) F r
    unfold lnOf; rw [if_neg hc]; exact WL.weak h
theorem fn_push (T : Tx G P) {x : Str} (hp : pbs.length ≤ 1000) : FnXC G 1 (.ref 70) [.ref L.x, .str x] (WL P L k ln pbs left) (WL P L k ln (pbs ++ [x]) left) .none := by
  refine FnXC.of (n := 0) (ps := ["self", "token"]) (T.fn 70 (by decide)) rfl (vs2 fun x y => by kernel_rfl) rfl rfl rfl (by kernel_rfl) rfl rfl rfl ?_
  refine ⟨fun A env s₀ N₀ X Y s N rm w F Q E q => ?_⟩
  replace F : Fs G (fdP P 70).scope (ownNames (fdP P 70).scope) ⟨X ++ Y, s₀, N₀⟩ [("self", .imm (.ref L.x)), ("token", .imm (.str x))] env s N := F
  refine exprX (cx0 := [("self", .imm (.ref L.x)), ("token", .imm (.str x))]) w F rm (by walk_at "sub") (EvX.push (ds := strD pbs) (EvR.attr (Ev.name (x := "self") (by walk_at "sub")) (by rw [T.frag]; kernel_rfl) WL.pback) (Ev.name (x := "token") (by walk_at "sub")) (W' := WL P L k ln (pbs ++ [x]) left) ?_ (by simp [strD, sizeLine]; lia)) fun s N X1 w1 a1 l1 F => ?_
  · have := WL.ppb (P := P) (L := L) (k := k) (ln := ln) (pbs := pbs) (left := left) (pbs' := pbs ++ [x])
    simpa [strD] using this
  · refine wnil ?_
    exact q _ s N _ X1 Y _ _ _ w1 a1 l1 F rfl
end
end Mine
end
section
set_option tactic.hygienic false
open PySem PySem.W PyProof.Rows
namespace Mine
section
variable {G : Gs} {P : Params} {n : Nat} {A : Around} {sc : Scope} {cx : Cx} {L : Lexer} {k ln : Nat} {pbs : List Str} {left : List Nat} {W : Wd}
theorem EvTX.cmpR {l r : Expr} {op : CmpOp} {p : Pos} {d1 d2 : D} {b : Bool} (hl : Ev G n sc cx l d1) (hr : EvR G n sc cx W r d2) (ho : Cm2 G n op d1 d2 b) (hm : behindInMarks op r = false := by rfl) : EvTX G n sc cx W (.Compare l [op] [r] p) b := by
  refine ⟨fun A env s N X rm z hx hw Q E k => ?_⟩
  with_reducible refine wpAny_isTrue_Compare1 ((hl.go A env s N rm z).go _ _ fun v s1 N1 g1 r1 => hr.go A env s1 N1 X rm (z.gr g1) (hx.gr g1) (W.mono g1.le hw) _ _ fun v2 s2 N2 g2 r2 => ?_) hm
  exact (ho.go A s2 N2 _ _ rm ((z.gr g1).gr g2).toOk (r1.mono g2.le) r2).go _ _ fun s3 N3 g3 => wpAny_truthy_bool (k _ _ ((g1.trans g2).trans g3))
theorem EvTX.lstR {e : Expr} {a : Addr} {ds : List D} (he : EvR G n sc cx W e (.ref a)) (hs : ∀ N X, W.P N X → Rp (N.fz X) (.ref a) (.list ds)) (hlen : ds.length ≤ sizeLine) (hp : ∀ env, isTrue e env (eval e env) = (do let v ← eval e env; standAt e.pos; holding [v] (truthy v)) := by intro _; rfl) : EvTX G n sc cx W e (!ds.isEmpty) := by
  refine ⟨fun A env s N X rm z hx hw Q E k => ?_⟩
  with_reducible refine wpAny_isTrue_value (he.go A env s N X rm z hx hw _ _ fun v s1 N1 g1 r1 => ?_) (hp env)
  refine r1.eRef ?_
  have hx1 := hx.gr g1
  exact ((tr_list (n := n) hlen).go A s1 _ _ rm ((z.gr g1).toOk.fz hx1) (hs _ _ (W.mono g1.le hw))).go _ _ fun s2 N2 g2 => k _ _ (g1.trans (g2.uf hx1))
theorem WL.pbsee {N : Lg} {X : Xs} (h : (WL P L k ln pbs left).P N X) : Rp (N.fz X) (.ref L.pb) (.list (strD pbs)) := by
  obtain ⟨h0, od, pv, lv, m, nn, n1, n2, h1, h2, h3, h4, h5, h6⟩ := h
  exact .list (o := listOf (List.toArray pv) n1) (n := n1) (.inr (by rw [h1]; simp)) rfl rfl (h5.mono fun _ _ e => .inl e)
noncomputable def sOk (c : Nat) : Bool := [9, 10, 13, 32, 34, 92, 97, 98, 99, 100].contains c
noncomputable def whiteB (c : Nat) : Bool := [9, 10, 13, 32].contains c
theorem white_in {c : Nat} (h : sOk c = true) : Txt.contains wsText (S [c]) = whiteB c := by
  have : ∀ c ∈ [9, 10, 13, 32, 34, 92, 97, 98, 99, 100], Txt.contains wsText (S [c]) = whiteB c := by decide +kernel
  exact this c (by simpa [sOk] using h)
noncomputable abbrev Un := Bool × Nat
noncomputable def Un.chars (u : Un) : List Nat := if u.1 then [92, u.2] else [u.2]
noncomputable def charsOf (us : List Un) : List Nat := us.flatMap Un.chars
noncomputable def signsOf (us : List Un) : List Nat := us.map (·.2)
noncomputable def lnAll (ln : Nat) (l : List Nat) : Nat := l.foldl lnOf ln
theorem charsOf_cons (u : Un) (us : List Un) : charsOf (u :: us) = u.chars ++ charsOf us := by simp [charsOf]
theorem lnAll_app (ln : Nat) (l r : List Nat) : lnAll ln (l ++ r) = lnAll (lnAll ln l) r := by simp [lnAll]
noncomputable def qOk (u : Un) : Bool := sOk u.2 && (u.1 || (u.2 != 34 && u.2 != 92))
noncomputable def bOk (u : Un) : Bool := sOk u.2 && (u.1 || (!whiteB u.2 && u.2 != 92))
noncomputable def outerBody (b : List Stmt) : List Stmt := match b with
  | [_, _, _, .For _ _ b _ _, _] => b
  | _ => []
noncomputable def quotBody (b : List Stmt) : List Stmt := match b with
  | [_, .If _ [.For _ _ b _ _] _ _] => b
  | _ => []
noncomputable def bareBody (b : List Stmt) : List Stmt := match b with
  | [_, .If _ _ [_, _, .For _ _ b _ _] _] => b
  | _ => []
noncomputable abbrev obP (P : Params) : List Stmt := outerBody (bodyOf (fdP P 63))
noncomputable abbrev qbP (P : Params) : List Stmt := quotBody (obP P)
noncomputable abbrev bbP (P : Params) : List Stmt := bareBody (obP P)
set_option maxRecDepth 10000
noncomputable def hd1 (l : List Nat) : Str := S (l.take 1)
theorem fn_rc' (T : Tx G P) (l : List Nat) (hl : l.length ≤ 300) : FnXC G 2 (.ref 56) [.ref L.x] (WL P L k ln pbs l) (WL P L k (lnAll ln (l.take 1)) pbs (l.drop 1)) (.str (hd1 l)) := by
  cases l with
  | nil => exact fn_rc_nil T
  | cons c l => exact fn_rc T (by simp at hl; lia)
theorem hd1_ne {c : Nat} {l : List Nat} : hd1 (c :: l) = S [c] := rfl
theorem S_ne (c : Nat) : S [c] ≠ "" := fun e => by have := S_inj (l := [c]) (r := []) (e.trans empty_S); cases this
theorem str_eq (c : Nat) (x : Str) (k : Nat) (h : x = S [k]) : (S [c] == x) = decide (c = k) := sign_eq c x k h
theorem qt_is : ("\"" : Str) = S [34] := by decide +kernel

end
end Mine
end
section
set_option tactic.hygienic false
open PySem PySem.W PyProof.Rows
namespace Mine
section
variable {G : Gs} {P : Params} {n : Nat} {A : Around} {cx : Cx} {L : Lexer} {env : Env} {s s₀ : Shared} {N N₀ : Lg} {X₀ Y : Xs} {it q : Addr} {t : Tok}
variable {Q : Flow → Shared → Prop} {E : Value → Shared → Prop} {rest' : List Stmt}
set_option maxRecDepth 10000
noncomputable abbrev sc63 (P : Params) : Scope := (fdP P 63).scope
theorem FnX.le {G : Gs} {m n : Nat} {f : Value} {args : List D} {W W' : Wd} {d : D} (h : FnX G m f args W W' d) (k : m ≤ n) : FnX G n f args W W' d := ⟨fun A s N vs X rm => h.go A s N vs X (rm.le k)⟩
theorem FnXC.le {G : Gs} {m n : Nat} {f : Value} {args : List D} {W W' : Wd} {d : D} (h : FnXC G m f args W W' d) (k : m ≤ n) : FnXC G n f args W W' d := ⟨fun A s N vs X rm => h.go A s N vs X (rm.le k)⟩
structure TSt where
  us : List Un
  tok : List Nat
  ln : Nat
noncomputable def TSt.Ok (ok : Un → Bool) (us : List Un) (tok0 : List Nat) (ln0 : Nat) (σ : TSt) : Prop :=
  σ.tok ++ signsOf σ.us = tok0 ++ signsOf us ∧ lnAll σ.ln (charsOf σ.us) = lnAll ln0 (charsOf us) ∧ (∀ u ∈ σ.us, ok u = true) ∧ (charsOf σ.us).length ≤ (charsOf us).length
theorem signs_len (us : List Un) : (signsOf us).length ≤ (charsOf us).length := by
  induction us with
  | nil => simp [signsOf, charsOf]
  | cons u us ih =>
    rw [charsOf_cons, List.length_append]
    have h1 : (signsOf (u :: us)).length = (signsOf us).length + 1 := by simp [signsOf]
    have h2 : 1 ≤ u.chars.length := by unfold Un.chars; split <;> simp
    lia
theorem TSt.Ok.step {ok : Un → Bool} {us : List Un} {tok0 : List Nat} {ln0 : Nat} {u : Un} {r : List Un} {tok : List Nat} {ln : Nat} (h : TSt.Ok ok us tok0 ln0 ⟨u :: r, tok, ln⟩) : TSt.Ok ok us tok0 ln0 ⟨r, tok ++ [u.2], lnAll ln u.chars⟩ := by
  obtain ⟨h1, h2, h3, h4⟩ := h
  refine ⟨?_, ?_, fun v hv => h3 v (.tail _ hv), ?_⟩
  · rw [← h1]; simp [signsOf]
  · rw [← h2]
    show lnAll (lnAll ln u.chars) (charsOf r) = lnAll ln (charsOf (u :: r))
    rw [charsOf_cons, lnAll_app]
  · have : (charsOf (u :: r)).length ≤ (charsOf us).length := h4
    rw [charsOf_cons, List.length_append] at this
    show (charsOf r).length ≤ _
    lia
theorem quot_loop (T : Tx G P) {us : List Un} {rest : List Nat} {tok0 : List Nat} {ln0 : Nat} {p p1 p2 : Pos}
    (w : WX (WL P L 0 ln0 [] (charsOf us ++ 34 :: rest)) N₀ X₀ ((it, itObj q t false) :: Y)) (F : Fs G (sc63 P) (ownNames (sc63 P)) ⟨X₀ ++ (it, itObj q t false) :: Y, s₀, N₀⟩ cx env s N) (rm : Rm A 3)
    (hsub : ∀ p ∈ ([("token", .imm (.str (S tok0))), ("fiter", .imm (.ref it)), ("self", .imm (.ref L.x))] : Cx), p ∈ cx) (hY : ∀ p ∈ Y, p.1 ≠ it) (hq : N₀ q (methodObj (.ref 56) (.ref L.x))) (hus : ∀ u ∈ us, qOk u = true) (hlen : (charsOf us).length + rest.length + tok0.length ≤ 290)
    (kr : ∀ v s' N' N₁ X cx', WX (WL P L 0 (lnAll ln0 (charsOf us ++ [34])) [] rest) N₁ X ((it, itObj q t false) :: Y) → AllX X₀ X → Bse.Le ⟨X₀ ++ (it, itObj q t false) :: Y, s₀, N₀⟩ ⟨X ++ (it, itObj q t false) :: Y, s₀, N₁⟩ → Fs G (sc63 P) (ownNames (sc63 P)) ⟨X ++ (it, itObj q t false) :: Y, s₀, N₁⟩ cx' env s' N' → Rp N' v (.str (S (tok0 ++ signsOf us))) → Q (.ret v) s') :
    Wp G A (execs (.For (.Name "ch" p1) (.Name "fiter" p2) (qbP P) [] p :: rest') env) Q E s := by
  have hsg := signs_len us
  refine forIt (n := 2) (σ := TSt) (q := q) (f := 56) (xx := L.x) (t := t) (X₀ := X₀) (N₀ := N₀) (Y := Y) (fd := fdP P 56) (TSt.Ok qOk us tok0 ln0) (fun _ => false) (fun σ => WL P L 0 σ.ln [] (charsOf σ.us ++ 34 :: rest)) (fun σ => WL P L 0 (lnAll σ.ln ((charsOf σ.us ++ 34 :: rest).take 1)) [] ((charsOf σ.us ++ 34 :: rest).drop 1)) (fun σ => hd1 (charsOf σ.us ++ 34 :: rest))
    (fun σ => [("token", .imm (.str (S σ.tok))), ("fiter", .imm (.ref it)), ("self", .imm (.ref L.x))]) (fun σ => σ.us.length) ⟨us, tok0, ln0⟩ w F rm (hsub _ (by walk_at "sub")) hsub ⟨rfl, rfl, hus, Nat.le_refl _⟩ hY hq (T.fn 56 (by decide)) (fun σ hP _ => fn_rc' T _ ?_) (fun σ _ => by kernel_rfl) ?_ ?_
  · have := hP.2.2.2
    simp only [List.length_append, List.length_cons]; lia
  · rintro ⟨r, tok, ln⟩ s1 N1 E' N₁ X1 Q' hQ hP _ hne w1 a1 l1 F1
    have htok : tok.length ≤ 290 := by
      have h1 := congrArg List.length hP.1
      simp only [List.length_append] at h1
      lia
    have hrl : (charsOf r).length ≤ (charsOf us).length := hP.2.2.2
    cases r with
    | nil =>
      have hch : hd1 (charsOf ([] : List Un) ++ 34 :: rest) = S [34] := rfl
      replace F1 : Fs G (sc63 P) (ownNames (sc63 P)) ⟨X1 ++ (it, itObj q t false) :: Y, s₀, N₁⟩ [("ch", .imm (.str (S [34]))), ("token", .imm (.str (S tok))), ("fiter", .imm (.ref it)), ("self", .imm (.ref L.x))] env s1 N1 := F1
      refine ifX (cx0 := [("ch", .imm (.str (S [34])))]) (b := true) w1 F1 rm (by walk_at "sub") (EvTX.pure (EvT.eq (EvT.cmp (Ev.name (x := "ch") (d := .str (S [34])) (by walk_at "sub")) (Ev.str (x := "\"")) cm_eqS) (str_eq 34 _ 34 qt_is))) (fun _ s2 N2 F2 => ?_) (fun h => nomatch h)
      refine retX (cx0 := [("token", .imm (.str (S tok)))]) w1 F2 rm (by walk_at "sub") (EvX.pure (Ev.name (x := "token") (by walk_at "sub"))) fun v s3 N3 X3 w3 a3 l3 F3 r3 => ?_
      obtain ⟨h1, h2, h3, h4⟩ := hP
      have e1 : tok = tok0 ++ signsOf us := by rw [← h1]; simp [signsOf]
      have e2 : lnAll ln ([34] : List Nat) = lnAll ln0 (charsOf us ++ [34]) := by
        have h2' : ln = lnAll ln0 (charsOf us) := by rw [← h2]; rfl
        rw [lnAll_app, ← h2']
      rw [e1] at r3
      refine hQ _ _ (kr v s3 N3 _ X3 _ ?_ (all_trans a1 a3) (l1.trans l3) F3 r3)
      rw [← e2]; exact w3
    | cons u r =>
      obtain ⟨esc, c⟩ := u
      have hu : qOk (esc, c) = true := hP.2.2.1 _ (.head _)
      have hstep := hP.step
      have hadd : Ip2 G 3 .Add (.str (S tok)) (.str (S [c])) (.str (S (tok ++ [c]))) := by
        have := ip_addS (G := G) (n := 3) (a := S tok) (b := S [c]) (by rw [S_len, S_len]; simp only [sizeLine, List.length_cons, List.length_nil]; lia)
        rwa [S_app] at this
      cases esc with
      | false =>
        have hc : c ≠ 34 ∧ c ≠ 92 := by simp [qOk] at hu; exact hu.2
        replace w1 : WX (WL P L 0 (lnAll ln [c]) [] (charsOf r ++ 34 :: rest)) N₁ X1 ((it, itObj q t false) :: Y) := w1
        replace F1 : Fs G (sc63 P) (ownNames (sc63 P)) ⟨X1 ++ (it, itObj q t false) :: Y, s₀, N₁⟩ [("ch", .imm (.str (S [c]))), ("token", .imm (.str (S tok))), ("fiter", .imm (.ref it)), ("self", .imm (.ref L.x))] env s1 N1 := F1
        refine ifX (cx0 := [("ch", .imm (.str (S [c])))]) (b := false) w1 F1 rm (by walk_at "sub") (EvTX.pure (EvT.eq (EvT.cmp (Ev.name (x := "ch") (d := .str (S [c])) (by walk_at "sub")) (Ev.str (x := "\"")) cm_eqS) ((str_eq c _ 34 qt_is).trans (decide_eq_false hc.1)))) (fun h => nomatch h) (fun _ s2 N2 F2 => ?_)
        refine ifX (cx0 := [("ch", .imm (.str (S [c])))]) (b := false) w1 F2 rm (by walk_at "sub") (EvTX.pure (EvT.eq (EvT.cmp (Ev.name (x := "ch") (d := .str (S [c])) (by walk_at "sub")) (Ev.str (x := "\\")) cm_eqS) ((str_eq c _ 92 bs_is).trans (decide_eq_false hc.2)))) (fun h => nomatch h) (fun _ s3 N3 F3 => ?_)
        refine wnil (wnil ?_)
        refine aug F3 rm (by walk_at "sub") (Ev.name (x := "ch") (d := .str (S [c])) (by walk_at "sub")) hadd (cx' := [("fiter", .imm (.ref it)), ("self", .imm (.ref L.x))]) (by walk_at "sub") (by kernel_rfl) fun s4 N4 F4 => ?_
        refine wnil (hQ _ _ ⟨⟨r, tok ++ [c], lnAll ln [c]⟩, N4, N₁, X1, hstep, Nat.lt_succ_self _, w1, fun q hq => ⟨q, hq, rfl⟩, Bse.Le.refl _, F4⟩)
      | true =>
        replace w1 : WX (WL P L 0 (lnAll ln [92]) [] (c :: (charsOf r ++ 34 :: rest))) N₁ X1 ((it, itObj q t false) :: Y) := w1
        replace F1 : Fs G (sc63 P) (ownNames (sc63 P)) ⟨X1 ++ (it, itObj q t false) :: Y, s₀, N₁⟩ [("ch", .imm (.str (S [92]))), ("token", .imm (.str (S tok))), ("fiter", .imm (.ref it)), ("self", .imm (.ref L.x))] env s1 N1 := F1
        refine ifX (cx0 := [("ch", .imm (.str (S [92])))]) (b := false) w1 F1 rm (by walk_at "sub") (EvTX.pure (EvT.eq (EvT.cmp (Ev.name (x := "ch") (d := .str (S [92])) (by walk_at "sub")) (Ev.str (x := "\"")) cm_eqS) (str_eq 92 _ 34 qt_is))) (fun h => nomatch h) (fun _ s2 N2 F2 => ?_)
        refine ifX (cx0 := [("ch", .imm (.str (S [92])))]) (b := true) w1 F2 rm (by walk_at "sub") (EvTX.pure (EvT.eq (EvT.cmp (Ev.name (x := "ch") (d := .str (S [92])) (by walk_at "sub")) (Ev.str (x := "\\")) cm_eqS) (str_eq 92 _ 92 bs_is))) (fun _ s3 N3 F3 => ?_) (fun h => nomatch h)
        have hl3 : (charsOf r ++ 34 :: rest).length ≤ 300 := by
          rw [charsOf_cons, List.length_append] at hrl
          simp only [List.length_append, List.length_cons]; lia
        refine asgX (x := "ch") w1 F3 rm (cx0 := [("self", .imm (.ref L.x))]) (by walk_at "sub") (EvX.meth0 (Ev.name (x := "self") (by walk_at "sub")) (by rw [T.frag]; kernel_rfl) WL.hasI (by simp) (FnX.le (fn_rc T hl3).x (by decide))) (cx' := [("token", .imm (.str (S tok))), ("fiter", .imm (.ref it)), ("self", .imm (.ref L.x))]) (by walk_at "sub") (by kernel_rfl) fun s4 N4 X4 w4 a4 l4 F4 => ?_
        refine wnil (wnil ?_)
        refine aug F4 rm (by walk_at "sub") (Ev.name (x := "ch") (d := .str (S [c])) (by walk_at "sub")) hadd (cx' := [("fiter", .imm (.ref it)), ("self", .imm (.ref L.x))]) (by walk_at "sub") (by kernel_rfl) fun s5 N5 F5 => ?_
        refine wnil (hQ _ _ ⟨⟨r, tok ++ [c], lnAll ln [92, c]⟩, N5, N4, X4, hstep, Nat.lt_succ_self _, w4, a4, l4, F5⟩)
  · rintro ⟨r, tok, ln⟩ s1 N1 N₁ X1 W' hP hh
    rcases hh with ⟨h, _⟩ | ⟨_, h, _⟩
    · cases h
    · exfalso
      have h' : hd1 (charsOf r ++ 34 :: rest) = "" := h
      cases hr : charsOf r with
      | nil => rw [hr] at h'; exact S_ne 34 h'
      | cons a l => rw [hr] at h'; exact S_ne a h'
theorem bare_loop (T : Tx G P) {us : List Un} {tail : List Nat} {tok0 : List Nat} {ln0 : Nat} {p p1 p2 : Pos}
    (w : WX (WL P L 0 ln0 [] (charsOf us ++ tail)) N₀ X₀ ((it, itObj q t false) :: Y)) (F : Fs G (sc63 P) (ownNames (sc63 P)) ⟨X₀ ++ (it, itObj q t false) :: Y, s₀, N₀⟩ cx env s N) (rm : Rm A 3)
    (hsub : ∀ p ∈ ([("token", .imm (.str (S tok0))), ("fiter", .imm (.ref it)), ("self", .imm (.ref L.x))] : Cx), p ∈ cx) (hY : ∀ p ∈ Y, p.1 ≠ it) (hq : N₀ q (methodObj (.ref 56) (.ref L.x))) (hus : ∀ u ∈ us, bOk u = true) (htail : tail = [] ∨ ∃ w rest, tail = w :: rest ∧ whiteB w = true ∧ sOk w = true) (hlen : (charsOf us).length + tail.length + tok0.length ≤ 290)
    (kr : ∀ c rest, tail = c :: rest → ∀ v s' N' N₁ X cx', WX (WL P L 0 (lnAll ln0 (charsOf us ++ [c])) [] rest) N₁ X ((it, itObj q t false) :: Y) → AllX X₀ X → Bse.Le ⟨X₀ ++ (it, itObj q t false) :: Y, s₀, N₀⟩ ⟨X ++ (it, itObj q t false) :: Y, s₀, N₁⟩ → Fs G (sc63 P) (ownNames (sc63 P)) ⟨X ++ (it, itObj q t false) :: Y, s₀, N₁⟩ cx' env s' N' → Rp N' v (.str (S (tok0 ++ signsOf us))) → Q (.ret v) s')
    (ke : tail = [] → ∀ s' N' N₁ X, WX (WL P L 0 (lnAll ln0 (charsOf us)) [] []) N₁ X ((it, itObj q t true) :: Y) → AllX X₀ X → Bse.Le ⟨X₀ ++ (it, itObj q t false) :: Y, s₀, N₀⟩ ⟨X ++ (it, itObj q t true) :: Y, s₀, N₁⟩ → Fs G (sc63 P) (ownNames (sc63 P)) ⟨X ++ (it, itObj q t true) :: Y, s₀, N₁⟩ [("token", .imm (.str (S (tok0 ++ signsOf us)))), ("fiter", .imm (.ref it)), ("self", .imm (.ref L.x))] env s' N' → Wp G A (execs rest' env) Q E s') :
    Wp G A (execs (.For (.Name "ch" p1) (.Name "fiter" p2) (bbP P) [] p :: rest') env) Q E s := by
  have hsg := signs_len us
  refine forIt (n := 2) (σ := TSt) (q := q) (f := 56) (xx := L.x) (t := t) (X₀ := X₀) (N₀ := N₀) (Y := Y) (fd := fdP P 56) (TSt.Ok bOk us tok0 ln0) (fun _ => false) (fun σ => WL P L 0 σ.ln [] (charsOf σ.us ++ tail)) (fun σ => WL P L 0 (lnAll σ.ln ((charsOf σ.us ++ tail).take 1)) [] ((charsOf σ.us ++ tail).drop 1)) (fun σ => hd1 (charsOf σ.us ++ tail))
    (fun σ => [("token", .imm (.str (S σ.tok))), ("fiter", .imm (.ref it)), ("self", .imm (.ref L.x))]) (fun σ => σ.us.length) ⟨us, tok0, ln0⟩ w F rm (hsub _ (by walk_at "sub")) hsub ⟨rfl, rfl, hus, Nat.le_refl _⟩ hY hq (T.fn 56 (by decide)) (fun σ hP _ => fn_rc' T _ ?_) (fun σ _ => by kernel_rfl) ?_ ?_
  · have := hP.2.2.2
    simp only [List.length_append, List.length_cons]; lia
  · rintro ⟨r, tok, ln⟩ s1 N1 E' N₁ X1 Q' hQ hP _ hne w1 a1 l1 F1
    have htok : tok.length ≤ 290 := by
      have h1 := congrArg List.length hP.1
      simp only [List.length_append] at h1
      lia
    have hrl : (charsOf r).length ≤ (charsOf us).length := hP.2.2.2
    cases r with
    | nil =>
      rcases htail with h0 | ⟨c, rest, rfl, hw, hs⟩
      · subst h0; exact absurd rfl hne
      replace F1 : Fs G (sc63 P) (ownNames (sc63 P)) ⟨X1 ++ (it, itObj q t false) :: Y, s₀, N₁⟩ [("ch", .imm (.str (S [c]))), ("token", .imm (.str (S tok))), ("fiter", .imm (.ref it)), ("self", .imm (.ref L.x))] env s1 N1 := F1
      refine ifX (cx0 := [("ch", .imm (.str (S [c]))), ("self", .imm (.ref L.x))]) (b := true) w1 F1 rm (by walk_at "sub") (EvTX.cmpR (Ev.name (x := "ch") (d := .str (S [c])) (by walk_at "sub")) (EvR.attr (Ev.name (x := "self") (by walk_at "sub")) (by rw [T.frag]; kernel_rfl) WL.ws) (((white_in hs).trans hw) ▸ cm_inS)) (fun _ s2 N2 F2 => ?_) (fun h => nomatch h)
      refine retX (cx0 := [("token", .imm (.str (S tok)))]) w1 F2 rm (by walk_at "sub") (EvX.pure (Ev.name (x := "token") (by walk_at "sub"))) fun v s3 N3 X3 w3 a3 l3 F3 r3 => ?_
      obtain ⟨h1, h2, h3, h4⟩ := hP
      have e1 : tok = tok0 ++ signsOf us := by rw [← h1]; simp [signsOf]
      have e2 : lnAll ln ([c] : List Nat) = lnAll ln0 (charsOf us ++ [c]) := by
        have h2' : ln = lnAll ln0 (charsOf us) := by rw [← h2]; rfl
        rw [lnAll_app, ← h2']
      rw [e1] at r3
      refine hQ _ _ (kr c rest rfl v s3 N3 _ X3 _ ?_ (all_trans a1 a3) (l1.trans l3) F3 r3)
      rw [← e2]; exact w3
    | cons u r =>
      obtain ⟨esc, c⟩ := u
      have hu : bOk (esc, c) = true := hP.2.2.1 _ (.head _)
      have hstep := hP.step
      have hadd : Ip2 G 3 .Add (.str (S tok)) (.str (S [c])) (.str (S (tok ++ [c]))) := by
        have := ip_addS (G := G) (n := 3) (a := S tok) (b := S [c]) (by rw [S_len, S_len]; simp only [sizeLine, List.length_cons, List.length_nil]; lia)
        rwa [S_app] at this
      cases esc with
      | false =>
        have hc : whiteB c = false ∧ c ≠ 92 := by simp [bOk] at hu; exact hu.2
        have hs : sOk c = true := by simp [bOk] at hu; exact hu.1
        replace w1 : WX (WL P L 0 (lnAll ln [c]) [] (charsOf r ++ tail)) N₁ X1 ((it, itObj q t false) :: Y) := w1
        replace F1 : Fs G (sc63 P) (ownNames (sc63 P)) ⟨X1 ++ (it, itObj q t false) :: Y, s₀, N₁⟩ [("ch", .imm (.str (S [c]))), ("token", .imm (.str (S tok))), ("fiter", .imm (.ref it)), ("self", .imm (.ref L.x))] env s1 N1 := F1
        refine ifX (cx0 := [("ch", .imm (.str (S [c]))), ("self", .imm (.ref L.x))]) (b := false) w1 F1 rm (by walk_at "sub") (EvTX.cmpR (Ev.name (x := "ch") (d := .str (S [c])) (by walk_at "sub")) (EvR.attr (Ev.name (x := "self") (by walk_at "sub")) (by rw [T.frag]; kernel_rfl) WL.ws) (((white_in hs).trans hc.1) ▸ cm_inS)) (fun h => nomatch h) (fun _ s2 N2 F2 => ?_)
        refine ifX (cx0 := [("ch", .imm (.str (S [c])))]) (b := false) w1 F2 rm (by walk_at "sub") (EvTX.pure (EvT.eq (EvT.cmp (Ev.name (x := "ch") (d := .str (S [c])) (by walk_at "sub")) (Ev.str (x := "\\")) cm_eqS) ((str_eq c _ 92 bs_is).trans (decide_eq_false hc.2)))) (fun h => nomatch h) (fun _ s3 N3 F3 => ?_)
        refine wnil (wnil ?_)
        refine aug F3 rm (by walk_at "sub") (Ev.name (x := "ch") (d := .str (S [c])) (by walk_at "sub")) hadd (cx' := [("fiter", .imm (.ref it)), ("self", .imm (.ref L.x))]) (by walk_at "sub") (by kernel_rfl) fun s4 N4 F4 => ?_
        refine wnil (hQ _ _ ⟨⟨r, tok ++ [c], lnAll ln [c]⟩, N4, N₁, X1, hstep, Nat.lt_succ_self _, w1, fun q hq => ⟨q, hq, rfl⟩, Bse.Le.refl _, F4⟩)
      | true =>
        replace w1 : WX (WL P L 0 (lnAll ln [92]) [] (c :: (charsOf r ++ tail))) N₁ X1 ((it, itObj q t false) :: Y) := w1
        replace F1 : Fs G (sc63 P) (ownNames (sc63 P)) ⟨X1 ++ (it, itObj q t false) :: Y, s₀, N₁⟩ [("ch", .imm (.str (S [92]))), ("token", .imm (.str (S tok))), ("fiter", .imm (.ref it)), ("self", .imm (.ref L.x))] env s1 N1 := F1
        refine ifX (cx0 := [("ch", .imm (.str (S [92]))), ("self", .imm (.ref L.x))]) (b := false) w1 F1 rm (by walk_at "sub") (EvTX.cmpR (Ev.name (x := "ch") (d := .str (S [92])) (by walk_at "sub")) (EvR.attr (Ev.name (x := "self") (by walk_at "sub")) (by rw [T.frag]; kernel_rfl) WL.ws) (((white_in (c := 92) rfl).trans (show whiteB 92 = false from rfl)) ▸ cm_inS)) (fun h => nomatch h) (fun _ s2 N2 F2 => ?_)
        refine ifX (cx0 := [("ch", .imm (.str (S [92])))]) (b := true) w1 F2 rm (by walk_at "sub") (EvTX.pure (EvT.eq (EvT.cmp (Ev.name (x := "ch") (d := .str (S [92])) (by walk_at "sub")) (Ev.str (x := "\\")) cm_eqS) (str_eq 92 _ 92 bs_is))) (fun _ s3 N3 F3 => ?_) (fun h => nomatch h)
        have hl3 : (charsOf r ++ tail).length ≤ 300 := by
          rw [charsOf_cons, List.length_append] at hrl
          simp only [List.length_append, List.length_cons]; lia
        refine asgX (x := "ch") w1 F3 rm (cx0 := [("self", .imm (.ref L.x))]) (by walk_at "sub") (EvX.meth0 (Ev.name (x := "self") (by walk_at "sub")) (by rw [T.frag]; kernel_rfl) WL.hasI (by simp) (FnX.le (fn_rc T hl3).x (by decide))) (cx' := [("token", .imm (.str (S tok))), ("fiter", .imm (.ref it)), ("self", .imm (.ref L.x))]) (by walk_at "sub") (by kernel_rfl) fun s4 N4 X4 w4 a4 l4 F4 => ?_
        refine wnil (wnil ?_)
        refine aug F4 rm (by walk_at "sub") (Ev.name (x := "ch") (d := .str (S [c])) (by walk_at "sub")) hadd (cx' := [("fiter", .imm (.ref it)), ("self", .imm (.ref L.x))]) (by walk_at "sub") (by kernel_rfl) fun s5 N5 F5 => ?_
        refine wnil (hQ _ _ ⟨⟨r, tok ++ [c], lnAll ln [92, c]⟩, N5, N4, X4, hstep, Nat.lt_succ_self _, w4, a4, l4, F5⟩)
  · rintro ⟨r, tok, ln⟩ s1 N1 N₁ X1 W' hP hh w1 a1 l1 F1
    rcases hh with ⟨h, _⟩ | ⟨_, h, hW⟩
    · cases h
    · have h' : hd1 (charsOf r ++ tail) = "" := h
      have hnil : charsOf r ++ tail = [] := by
        cases hr : charsOf r ++ tail with
        | nil => rfl
        | cons a l => rw [hr] at h'; exact absurd h' (S_ne a)
      obtain ⟨hr, ht⟩ := List.append_eq_nil_iff.mp hnil
      have hr0 : r = [] := by
        cases r with
        | nil => rfl
        | cons u r => rw [charsOf_cons] at hr; obtain ⟨h1, _⟩ := List.append_eq_nil_iff.mp hr; unfold Un.chars at h1; split at h1 <;> cases h1
      subst hr0
      obtain ⟨h1, h2, h3, h4⟩ := hP
      have e1 : tok = tok0 ++ signsOf us := by rw [← h1]; simp [signsOf]
      have e2 : ln = lnAll ln0 (charsOf us) := by rw [← h2]; rfl
      subst ht
      subst hW
      replace F1 : Fs G (sc63 P) (ownNames (sc63 P)) ⟨X1 ++ (it, itObj q t true) :: Y, s₀, N₁⟩ [("token", .imm (.str (S tok))), ("fiter", .imm (.ref it)), ("self", .imm (.ref L.x))] env s1 N1 := F1
      rw [e1] at F1
      refine ke rfl s1 N1 N₁ X1 ?_ a1 l1 F1
      rw [← e2]; exact w1
end
end Mine
end
section
set_option tactic.hygienic false
open PySem PySem.W PyProof.Rows
namespace Mine
section
variable {G : Gs} {P : Params} {n : Nat} {A : Around} {cx : Cx} {L : Lexer} {k ln : Nat} {pbs : List Str} {left : List Nat}
set_option maxRecDepth 10000
theorem fn_token_pb (T : Tx G P) {x : Str} (hp : pbs.length ≤ 1000) : FnXC G 4 (.ref 63) [.ref L.x] (WL P L k ln (x :: pbs) left) (WL P L k ln pbs left) (.str x) := by
  refine FnXC.of (n := 3) (ps := ["self"]) (T.fn 63 (by decide)) rfl (vs1 fun x => by kernel_rfl) rfl rfl rfl (by kernel_rfl) rfl rfl rfl ?_
  refine ⟨fun A env s₀ N₀ X Y s N rm w F Q E q => ?_⟩
  replace F : Fs G (sc63 P) (ownNames (sc63 P)) ⟨X ++ Y, s₀, N₀⟩ [("self", .imm (.ref L.x))] env s N := F
  refine ifX (cx0 := [("self", .imm (.ref L.x))]) (b := true) w F rm (by walk_at "sub") (EvTX.lstR (EvR.attr (Ev.name (x := "self") (by walk_at "sub")) (by rw [T.frag]; kernel_rfl) WL.pback) (fun N X h => WL.pbsee h) (by simp [strD, sizeLine]; lia)) (fun _ s N F => ?_) (fun h => nomatch h)
  refine retX (cx0 := [("self", .imm (.ref L.x))]) w F rm (by walk_at "sub") (EvX.pop0 (ds := strD pbs) (EvR.attr (Ev.name (x := "self") (by walk_at "sub")) (by rw [T.frag]; kernel_rfl) WL.pback) WL.ppb (by simp [strD, sizeLine]; lia)) fun v s N X1 w1 a1 l1 F r => ?_
  exact q _ s N _ X1 Y _ _ _ w1 a1 l1 F r
inductive TokIs : List Nat → List Nat → List Nat → Prop
  | e : TokIs [] [] []
  | q (us : List Un) (rest : List Nat) (h : ∀ u ∈ us, qOk u = true) : TokIs (signsOf us) (34 :: (charsOf us ++ [34])) rest
  | b (u : Un) (us : List Un) (c : Nat) (rest : List Nat) (h : ∀ v ∈ u :: us, bOk v = true) (hu : u.1 = true ∨ u.2 ≠ 34) (hw : whiteB c = true) (hs : sOk c = true) : TokIs (signsOf (u :: us)) (charsOf (u :: us) ++ [c]) rest
  | bE (u : Un) (us : List Un) (h : ∀ v ∈ u :: us, bOk v = true) (hu : u.1 = true ∨ u.2 ≠ 34) : TokIs (signsOf (u :: us)) (charsOf (u :: us)) []
theorem sOk_white {c : Nat} (h : whiteB c = true) : sOk c = true := by
  simp only [whiteB, sOk, List.contains_eq_mem, decide_eq_true_eq, List.mem_cons, List.not_mem_nil, or_false] at h ⊢
  lia
theorem tok_cases {tok con rest : List Nat} (h : TokIs tok con rest) : (tok = [] ∧ con = [] ∧ rest = []) ∨ (∃ us, tok = signsOf us ∧ con = 34 :: (charsOf us ++ [34]) ∧ ∀ u ∈ us, qOk u = true) ∨
    ∃ u us tail, con ++ rest = charsOf (u :: us) ++ tail ∧ tok = signsOf (u :: us) ∧ (∀ v ∈ u :: us, bOk v = true) ∧ (u.1 = true ∨ u.2 ≠ 34) ∧ (tail = [] ∨ ∃ w r, tail = w :: r ∧ whiteB w = true ∧ sOk w = true) ∧ (tail = [] → rest = [] ∧ con = charsOf (u :: us)) ∧ (∀ c r, tail = c :: r → r = rest ∧ con = charsOf (u :: us) ++ [c]) := by
  cases h with
  | e => exact .inl ⟨rfl, rfl, rfl⟩
  | q us rest h => exact .inr (.inl ⟨us, rfl, rfl, h⟩)
  | b u us c rest h hu hw hs => exact .inr (.inr ⟨u, us, c :: rest, by simp, rfl, h, hu, .inr ⟨c, rest, rfl, hw, hs⟩, (fun e => nomatch e), fun c' r' e => by cases e; exact ⟨rfl, rfl⟩⟩)
  | bE u us h hu => exact .inr (.inr ⟨u, us, [], by simp, rfl, h, hu, .inl rfl, fun _ => ⟨rfl, rfl⟩, (fun _ _ e => nomatch e)⟩)
noncomputable abbrev TkS := Option (List Nat × Nat)
noncomputable abbrev tkP (ln : Nat) (ws : List Nat) (σ : TkS) : Prop := match σ with | some (r, l) => (∀ c ∈ r, whiteB c = true) ∧ lnAll l r = lnAll ln ws ∧ r.length ≤ ws.length | none => True
noncomputable abbrev tkB (σ : TkS) : Bool := match σ with | some _ => false | none => true
noncomputable abbrev tkW (P : Params) (L : Lexer) (ln : Nat) (ws con rest : List Nat) (σ : TkS) : Wd := match σ with | some (r, l) => WL P L 0 l [] (r ++ (con ++ rest)) | none => WL P L 0 (lnAll ln (ws ++ con)) [] rest
noncomputable abbrev tkV (P : Params) (L : Lexer) (ln : Nat) (ws con rest : List Nat) (σ : TkS) : Wd := match σ with | some (r, l) => WL P L 0 (lnAll l ((r ++ (con ++ rest)).take 1)) [] ((r ++ (con ++ rest)).drop 1) | none => WL P L 0 (lnAll ln (ws ++ con)) [] rest
noncomputable abbrev tkC (con rest : List Nat) (σ : TkS) : Str := match σ with | some (r, l) => hd1 (r ++ (con ++ rest)) | none => ""
noncomputable abbrev tkX (L : Lexer) (it : Addr) (tok : List Nat) (σ : TkS) : Cx := match σ with | some _ => [("token", .imm (.str "")), ("fiter", .imm (.ref it)), ("self", .imm (.ref L.x))] | none => [("token", .imm (.str (S tok))), ("fiter", .imm (.ref it)), ("self", .imm (.ref L.x))]
noncomputable abbrev tkM (σ : TkS) : Nat := match σ with | some (r, _) => r.length + 1 | none => 0
theorem fn_token (T : Tx G P) {ws tok con rest : List Nat} (hws : ∀ c ∈ ws, whiteB c = true) (h : TokIs tok con rest) (hlen : ws.length + con.length + rest.length ≤ 280) :
    FnXC G 4 (.ref 63) [.ref L.x] (WL P L 0 ln [] (ws ++ (con ++ rest))) (WL P L 0 (lnAll ln (ws ++ con)) [] rest) (.str (S tok)) := by
  refine FnXC.of (n := 3) (ps := ["self"]) (T.fn 63 (by decide)) rfl (vs1 fun x => by kernel_rfl) rfl rfl rfl (by kernel_rfl) rfl rfl rfl ?_
  refine ⟨fun A env s₀ N₀ X Y s N rm w F Q E kk => ?_⟩
  replace F : Fs G (sc63 P) (ownNames (sc63 P)) ⟨X ++ Y, s₀, N₀⟩ [("self", .imm (.ref L.x))] env s N := F
  refine ifX (cx0 := [("self", .imm (.ref L.x))]) (b := false) w F rm (by walk_at "sub") (EvTX.lstR (ds := strD []) (EvR.attr (Ev.name (x := "self") (by walk_at "sub")) (by rw [T.frag]; kernel_rfl) WL.pback) (fun N X h => WL.pbsee h) (Nat.zero_le _)) (fun h => nomatch h) (fun _ s N F => ?_)
  refine wnil ?_
  refine asg (x := "token") F rm (Ev.str (x := "")) (by kernel_rfl) fun s N F => ?_
  refine asgIter (x := "fiter") (no := ["get_token", "push_token", "_read_char"]) (xx := L.x) (C := 73) (f := 56) (cx0 := [("self", .imm (.ref L.x))]) w F rm (by walk_at "sub") (nm_bi T (by kernel_rfl) (by kernel_rfl) (by decide)) (Ev.name (x := "self") (by walk_at "sub")) WL.hasI (by simp) (by rw [T.frag]; kernel_rfl) (by kernel_rfl) fun s N it q t hqN hY w1 l1 F => ?_
  replace F : Fs G (sc63 P) (ownNames (sc63 P)) ⟨X ++ (it, itObj q t false) :: Y, s₀, _⟩ [("fiter", .imm (.ref it)), ("token", .imm (.str "")), ("self", .imm (.ref L.x))] env s N := F
  have fin : ∀ {s : Shared} {N' N₁ : Lg} {X1 : Xs} {tk : Str}, tk = S tok → WX (WL P L 0 (lnAll ln (ws ++ con)) [] rest) N₁ X1 ((it, itObj q t true) :: Y) → AllX X X1 → Bse.Le ⟨X ++ (it, itObj q t false) :: Y, s₀, N⟩ ⟨X1 ++ (it, itObj q t true) :: Y, s₀, N₁⟩ → Fs G (sc63 P) (ownNames (sc63 P)) ⟨X1 ++ (it, itObj q t true) :: Y, s₀, N₁⟩ [("token", .imm (.str tk)), ("fiter", .imm (.ref it)), ("self", .imm (.ref L.x))] env s N' → ∀ {p1 p2 : Pos}, Wp G A (execs [.Return (some (.Name "token" p1)) p2] env) Q E s := by
    intro s N' N₁ X1 tk htk w2 a2 l2 F2 p1 p2
    subst htk
    refine retX (cx0 := [("token", .imm (.str (S tok)))]) w2 F2 rm (by walk_at "sub") (EvX.pure (Ev.name (x := "token") (by walk_at "sub"))) fun v s3 N3 X3 w3 a3 l3 F3 r3 => ?_
    exact kk _ s3 _ _ X3 _ _ _ _ w3 (all_trans a2 a3) ((l1.trans l2).trans l3) F3 r3
  refine forIt (n := 2) (σ := Option (List Nat × Nat)) (q := q) (f := 56) (xx := L.x) (t := t) (X₀ := X) (N₀ := N) (Y := Y) (fd := fdP P 56)
    (tkP ln ws) tkB (tkW P L ln ws con rest) (tkV P L ln ws con rest) (tkC con rest) (tkX L it tok) tkM
    (some (ws, ln)) w1 F rm (by walk_at "sub") (by walk_at "sub") ⟨hws, rfl, Nat.le_refl _⟩ hY hqN (T.fn 56 (by decide)) (fun σ hP hb => ?_) (fun σ _ => ?_) ?_ ?_
  · cases σ with
    | none => cases hb
    | some σ =>
      obtain ⟨r, l⟩ := σ
      have hl : r.length ≤ ws.length := hP.2.2
      exact fn_rc' T (r ++ (con ++ rest)) (by simp only [List.length_append]; lia)
  · cases σ with
    | none => kernel_rfl
    | some σ => kernel_rfl
  · intro σ s1 N1 E' N₁ X1 Qt hQ hP hb hne w2 a2 l2 F2
    cases σ with
    | none => cases hb
    | some σ =>
    obtain ⟨r, l⟩ := σ
    obtain ⟨h1, h2, h3⟩ := hP
    cases r with
    | cons c r =>
      have hw : whiteB c = true := h1 c (.head _)
      replace F2 : Fs G (sc63 P) (ownNames (sc63 P)) ⟨X1 ++ (it, itObj q t false) :: Y, s₀, N₁⟩ [("ch", .imm (.str (S [c]))), ("token", .imm (.str "")), ("fiter", .imm (.ref it)), ("self", .imm (.ref L.x))] env s1 N1 := F2
      replace w2 : WX (WL P L 0 (lnAll l [c]) [] (r ++ (con ++ rest))) N₁ X1 ((it, itObj q t false) :: Y) := w2
      refine ifX (cx0 := [("ch", .imm (.str (S [c]))), ("self", .imm (.ref L.x))]) (b := true) w2 F2 rm (by walk_at "sub") (EvTX.cmpR (Ev.name (x := "ch") (d := .str (S [c])) (by walk_at "sub")) (EvR.attr (Ev.name (x := "self") (by walk_at "sub")) (by rw [T.frag]; kernel_rfl) WL.ws) (((white_in (sOk_white hw)).trans hw) ▸ cm_inS)) (fun _ s3 N3 F3 => ?_) (fun h => nomatch h)
      refine cont_ (hQ _ _ ⟨some (r, lnAll l [c]), N3, N₁, X1, ⟨fun c' hc' => h1 c' (.tail _ hc'), h2, by simp at h3; lia⟩, by simp, w2, fun q hq => ⟨q, hq, rfl⟩, Bse.Le.refl _, F3.sub (by walk_at "sub")⟩)
    | nil =>
      have hl : l = lnAll ln ws := h2
      have hqN' := l2.le _ _ hqN
      rcases tok_cases h with ⟨rfl, rfl, rfl⟩ | ⟨us, rfl, rfl, hus⟩ | ⟨u, us, tail, hcr, rfl, hus, hu34, htail, ht0, ht1⟩
      · exact absurd rfl hne
      · have ha : (charsOf us ++ [34]) ++ rest = charsOf us ++ 34 :: rest := by simp
        replace w2 : WX (WL P L 0 (lnAll l [34]) [] ((charsOf us ++ [34]) ++ rest)) N₁ X1 ((it, itObj q t false) :: Y) := w2
        rw [ha] at w2
        replace F2 : Fs G (sc63 P) (ownNames (sc63 P)) ⟨X1 ++ (it, itObj q t false) :: Y, s₀, N₁⟩ [("ch", .imm (.str (S [34]))), ("token", .imm (.str (S []))), ("fiter", .imm (.ref it)), ("self", .imm (.ref L.x))] env s1 N1 := F2
        refine ifX (cx0 := [("ch", .imm (.str (S [34]))), ("self", .imm (.ref L.x))]) (b := false) w2 F2 rm (by walk_at "sub") (EvTX.cmpR (Ev.name (x := "ch") (d := .str (S [34])) (by walk_at "sub")) (EvR.attr (Ev.name (x := "self") (by walk_at "sub")) (by rw [T.frag]; kernel_rfl) WL.ws) (((white_in (c := 34) rfl).trans (show whiteB 34 = false from rfl)) ▸ cm_inS)) (fun h => nomatch h) (fun _ s3 N3 F3 => ?_)
        refine wnil ?_
        refine ifX (cx0 := [("ch", .imm (.str (S [34])))]) (b := true) w2 F3 rm (by walk_at "sub") (EvTX.pure (EvT.eq (EvT.cmp (Ev.name (x := "ch") (d := .str (S [34])) (by walk_at "sub")) (Ev.str (x := "\"")) cm_eqS) (str_eq 34 _ 34 qt_is))) (fun _ s4 N4 F4 => ?_) (fun h => nomatch h)
        refine quot_loop T (tok0 := []) w2 F4 rm (by walk_at "sub") hY hqN' hus (by simp at hlen ⊢; lia) fun v s5 N5 N6 X5 cx5 w5 a5 l5 F5 r5 => ?_
        refine hQ _ _ (kk _ s5 N5 N6 X5 _ _ _ _ ?_ (all_trans a2 a5) ((l1.trans l2).trans l5) F5 r5)
        have e2 : lnAll ln (ws ++ 34 :: (charsOf us ++ [34])) = lnAll (lnAll l [34]) (charsOf us ++ [34]) := by
          rw [hl, ← lnAll_app, ← lnAll_app]; simp
        rw [e2]; exact w5
      · obtain ⟨esc, c⟩ := u
        have hu : bOk (esc, c) = true := hus _ (.head _)
        have hus' : ∀ v ∈ us, bOk v = true := fun v hv => hus v (.tail _ hv)
        have hln : (charsOf us).length + tail.length + 2 ≤ 282 := by
          have := congrArg List.length hcr
          rw [charsOf_cons] at this
          simp only [List.length_append] at this
          have h2 : 1 ≤ (Un.chars (esc, c)).length := by unfold Un.chars; split <;> simp
          lia
        have hadd : Ip2 G 3 .Add (.str "") (.str (S [c])) (.str (S [c])) := by
          have := ip_addS (G := G) (n := 3) (a := S []) (b := S [c]) (by rw [S_len, S_len]; simp [sizeLine])
          rwa [S_app] at this
        have go : ∀ {s3 : Shared} {N3 N2' : Lg} {X2 : Xs} {rest' : List Stmt} {Q' : Flow → Shared → Prop} {E' : Value → Shared → Prop} {p p1 p2 p3 p4 p5 : Pos}, WX (WL P L 0 (lnAll l (Un.chars (esc, c))) [] (charsOf us ++ tail)) N2' X2 ((it, itObj q t false) :: Y) → AllX X1 X2 → Bse.Le ⟨X1 ++ (it, itObj q t false) :: Y, s₀, N₁⟩ ⟨X2 ++ (it, itObj q t false) :: Y, s₀, N2'⟩ → Fs G (sc63 P) (ownNames (sc63 P)) ⟨X2 ++ (it, itObj q t false) :: Y, s₀, N2'⟩ [("ch", .imm (.str (S [c]))), ("token", .imm (.str "")), ("fiter", .imm (.ref it)), ("self", .imm (.ref L.x))] env s3 N3 →
            (∀ v s', Q (.ret v) s' → Q' (.ret v) s') →
            (∀ s' N' N₁' X', WX (WL P L 0 (lnAll ln (ws ++ con)) [] rest) N₁' X' ((it, itObj q t true) :: Y) → AllX X1 X' → Bse.Le ⟨X1 ++ (it, itObj q t false) :: Y, s₀, N₁⟩ ⟨X' ++ (it, itObj q t true) :: Y, s₀, N₁'⟩ → Fs G (sc63 P) (ownNames (sc63 P)) ⟨X' ++ (it, itObj q t true) :: Y, s₀, N₁'⟩ [("token", .imm (.str (S (signsOf ((esc, c) :: us))))), ("fiter", .imm (.ref it)), ("self", .imm (.ref L.x))] env s' N' → Wp G A (execs rest' env) Q' E' s') →
            Wp G A (execs (.AugAssign (.Name "token" p) .Add (.Name "ch" p1) p2 :: .For (.Name "ch" p3) (.Name "fiter" p4) (bbP P) [] p5 :: rest') env) Q' E' s3 := by
          intro s3 N3 N2' X2 rest' Q' E' p p1 p2 p3 p4 p5 w3 a3 l3 F3 hret hend
          refine aug F3 rm (by walk_at "sub") (Ev.name (x := "ch") (d := .str (S [c])) (by walk_at "sub")) hadd (cx' := [("fiter", .imm (.ref it)), ("self", .imm (.ref L.x))]) (by walk_at "sub") (by kernel_rfl) fun s4 N4 F4 => ?_
          have hsig : S ([c] ++ signsOf us) = S (signsOf ((esc, c) :: us)) := rfl
          have elin : lnAll (lnAll l (Un.chars (esc, c))) (charsOf us) = lnAll l (charsOf ((esc, c) :: us)) := by rw [charsOf_cons, lnAll_app]
          refine bare_loop T (tok0 := [c]) (tail := tail) w3 F4 rm (by walk_at "sub") hY (l3.le _ _ hqN') hus' htail (by simp; lia) (fun c' r' ht v s5 N5 N6 X5 cx5 w5 a5 l5 F5 r5 => ?_) (fun ht s5 N5 N6 X5 w5 a5 l5 F5 => ?_)
          · obtain ⟨hr, hcon⟩ := ht1 c' r' ht
            subst hr
            refine hret _ _ (kk _ s5 N5 N6 X5 _ _ _ _ ?_ (all_trans (all_trans a2 a3) a5) (((l1.trans l2).trans l3).trans l5) F5 r5)
            have e2 : lnAll ln (ws ++ con) = lnAll (lnAll l (Un.chars (esc, c))) (charsOf us ++ [c']) := by
              rw [hcon, lnAll_app, ← hl, lnAll_app, lnAll_app, elin]
            rw [e2]; exact w5
          · obtain ⟨hr, hcon⟩ := ht0 ht
            refine hend s5 N5 N6 X5 ?_ (all_trans a3 a5) (l3.trans l5) F5
            have e2 : lnAll ln (ws ++ con) = lnAll (lnAll l (Un.chars (esc, c))) (charsOf us) := by
              rw [hcon, lnAll_app, ← hl, elin]
            rw [e2, hr]; exact w5
        cases esc with
        | false =>
          have hc : whiteB c = false ∧ c ≠ 92 := by simp [bOk] at hu; exact hu.2
          have hs : sOk c = true := by simp [bOk] at hu; exact hu.1
          have h34 : c ≠ 34 := by simpa using hu34
          have ecr : con ++ rest = c :: (charsOf us ++ tail) := by rw [hcr, charsOf_cons]; rfl
          replace w2 : WX (WL P L 0 (lnAll l ((con ++ rest).take 1)) [] ((con ++ rest).drop 1)) N₁ X1 ((it, itObj q t false) :: Y) := w2
          rw [ecr] at w2
          replace w2 : WX (WL P L 0 (lnAll l [c]) [] (charsOf us ++ tail)) N₁ X1 ((it, itObj q t false) :: Y) := w2
          replace F2 : Fs G (sc63 P) (ownNames (sc63 P)) ⟨X1 ++ (it, itObj q t false) :: Y, s₀, N₁⟩ [("ch", .imm (.str (hd1 (con ++ rest)))), ("token", .imm (.str "")), ("fiter", .imm (.ref it)), ("self", .imm (.ref L.x))] env s1 N1 := F2
          rw [ecr] at F2
          replace F2 : Fs G (sc63 P) (ownNames (sc63 P)) ⟨X1 ++ (it, itObj q t false) :: Y, s₀, N₁⟩ [("ch", .imm (.str (S [c]))), ("token", .imm (.str "")), ("fiter", .imm (.ref it)), ("self", .imm (.ref L.x))] env s1 N1 := F2
          refine ifX (cx0 := [("ch", .imm (.str (S [c]))), ("self", .imm (.ref L.x))]) (b := false) w2 F2 rm (by walk_at "sub") (EvTX.cmpR (Ev.name (x := "ch") (d := .str (S [c])) (by walk_at "sub")) (EvR.attr (Ev.name (x := "self") (by walk_at "sub")) (by rw [T.frag]; kernel_rfl) WL.ws) (((white_in hs).trans hc.1) ▸ cm_inS)) (fun h => nomatch h) (fun _ s3 N3 F3 => ?_)
          refine wnil ?_
          refine ifX (cx0 := [("ch", .imm (.str (S [c])))]) (b := false) w2 F3 rm (by walk_at "sub") (EvTX.pure (EvT.eq (EvT.cmp (Ev.name (x := "ch") (d := .str (S [c])) (by walk_at "sub")) (Ev.str (x := "\"")) cm_eqS) ((str_eq c _ 34 qt_is).trans (decide_eq_false h34)))) (fun h => nomatch h) (fun _ s4 N4 F4 => ?_)
          refine ifX (cx0 := [("ch", .imm (.str (S [c])))]) (b := false) w2 F4 rm (by walk_at "sub") (EvTX.pure (EvT.eq (EvT.cmp (Ev.name (x := "ch") (d := .str (S [c])) (by walk_at "sub")) (Ev.str (x := "\\")) cm_eqS) ((str_eq c _ 92 bs_is).trans (decide_eq_false hc.2)))) (fun h => nomatch h) (fun _ s5 N5 F5 => ?_)
          refine wnil ?_
          refine go w2 (fun q hq => ⟨q, hq, rfl⟩) (Bse.Le.refl _) F5 (fun v s' h => hQ _ _ h) fun s' N' N₁' X' w6 a6 l6 F6 => ?_
          exact wnil (wnil (hQ _ _ ⟨none, N', N₁', X', trivial, Nat.succ_pos _, w6, a6, l6, F6⟩))
        | true =>
          have ecr : con ++ rest = 92 :: (c :: (charsOf us ++ tail)) := by rw [hcr, charsOf_cons]; rfl
          replace w2 : WX (WL P L 0 (lnAll l ((con ++ rest).take 1)) [] ((con ++ rest).drop 1)) N₁ X1 ((it, itObj q t false) :: Y) := w2
          rw [ecr] at w2
          replace w2 : WX (WL P L 0 (lnAll l [92]) [] (c :: (charsOf us ++ tail))) N₁ X1 ((it, itObj q t false) :: Y) := w2
          replace F2 : Fs G (sc63 P) (ownNames (sc63 P)) ⟨X1 ++ (it, itObj q t false) :: Y, s₀, N₁⟩ [("ch", .imm (.str (hd1 (con ++ rest)))), ("token", .imm (.str "")), ("fiter", .imm (.ref it)), ("self", .imm (.ref L.x))] env s1 N1 := F2
          rw [ecr] at F2
          replace F2 : Fs G (sc63 P) (ownNames (sc63 P)) ⟨X1 ++ (it, itObj q t false) :: Y, s₀, N₁⟩ [("ch", .imm (.str (S [92]))), ("token", .imm (.str "")), ("fiter", .imm (.ref it)), ("self", .imm (.ref L.x))] env s1 N1 := F2
          refine ifX (cx0 := [("ch", .imm (.str (S [92]))), ("self", .imm (.ref L.x))]) (b := false) w2 F2 rm (by walk_at "sub") (EvTX.cmpR (Ev.name (x := "ch") (d := .str (S [92])) (by walk_at "sub")) (EvR.attr (Ev.name (x := "self") (by walk_at "sub")) (by rw [T.frag]; kernel_rfl) WL.ws) (((white_in (c := 92) rfl).trans (show whiteB 92 = false from rfl)) ▸ cm_inS)) (fun h => nomatch h) (fun _ s3 N3 F3 => ?_)
          refine wnil ?_
          refine ifX (cx0 := [("ch", .imm (.str (S [92])))]) (b := false) w2 F3 rm (by walk_at "sub") (EvTX.pure (EvT.eq (EvT.cmp (Ev.name (x := "ch") (d := .str (S [92])) (by walk_at "sub")) (Ev.str (x := "\"")) cm_eqS) (str_eq 92 _ 34 qt_is))) (fun h => nomatch h) (fun _ s4 N4 F4 => ?_)
          refine ifX (cx0 := [("ch", .imm (.str (S [92])))]) (b := true) w2 F4 rm (by walk_at "sub") (EvTX.pure (EvT.eq (EvT.cmp (Ev.name (x := "ch") (d := .str (S [92])) (by walk_at "sub")) (Ev.str (x := "\\")) cm_eqS) (str_eq 92 _ 92 bs_is))) (fun _ s5 N5 F5 => ?_) (fun h => nomatch h)
          refine asgX (x := "ch") w2 F5 rm (cx0 := [("self", .imm (.ref L.x))]) (by walk_at "sub") (EvX.meth0 (Ev.name (x := "self") (by walk_at "sub")) (by rw [T.frag]; kernel_rfl) WL.hasI (by simp) (FnX.le (fn_rc T (by simp; lia)).x (by decide))) (cx' := [("token", .imm (.str "")), ("fiter", .imm (.ref it)), ("self", .imm (.ref L.x))]) (by walk_at "sub") (by kernel_rfl) fun s6 N6 X6 w6 a6 l6 F6 => ?_
          refine wnil ?_
          refine go w6 a6 l6 F6 (fun v s' h => hQ _ _ h) fun s' N' N₁' X' w7 a7 l7 F7 => ?_
          exact wnil (wnil (hQ _ _ ⟨none, N', N₁', X', trivial, Nat.succ_pos _, w7, a7, l7, F7⟩))
  · intro σ s1 N1 N₁ X1 W' hP hh w2 a2 l2 F2
    cases σ with
    | none =>
      rcases hh with ⟨_, hW⟩ | ⟨h, _⟩
      · subst hW
        exact fin rfl w2 a2 l2 F2
      · cases h
    | some σ =>
      obtain ⟨r, l⟩ := σ
      rcases hh with ⟨h, _⟩ | ⟨_, h0, hW⟩
      · cases h
      · subst hW
        have h' : hd1 (r ++ (con ++ rest)) = "" := h0
        have hnil : r ++ (con ++ rest) = [] := by
          cases hr : r ++ (con ++ rest) with
          | nil => rfl
          | cons a l => rw [hr] at h'; exact absurd h' (S_ne a)
        have hP' : lnAll l r = lnAll ln ws := hP.2.1
        obtain ⟨hr, hcr⟩ := List.append_eq_nil_iff.mp hnil
        obtain ⟨hc, hre⟩ := List.append_eq_nil_iff.mp hcr
        subst hr
        rcases tok_cases h with ⟨rfl, rfl, rfl⟩ | ⟨us, _, e, _⟩ | ⟨u, us, tail, e, _⟩
        · refine fin (tk := "") rfl ?_ a2 l2 F2
          have e2 : lnAll ln (ws ++ []) = l := by rw [List.append_nil, ← hP']; rfl
          rw [e2]; exact w2
        · rw [hc] at e; cases e
        · rw [hcr, charsOf_cons] at e
          exfalso
          have := (List.append_eq_nil_iff.mp (List.append_eq_nil_iff.mp e.symm).1).1
          unfold Un.chars at this; split at this <;> cases this
end
end Mine
end
section
set_option tactic.hygienic false
open PySem PySem.W PyProof.Rows
namespace Mine
noncomputable def lexL (fp : D) (pb : Addr) : List (Str × D) := [("pushback", .ref pb), ("whitespace", .str wsText), ("instream", fp), ("lineno", .int 1)]
noncomputable def WN (fp : D) (x : Addr) : Wd := Wd.ex fun pb => (WI x 73 (lexL fp pb)).plus pb
section
variable {G : Gs} {P : Params} {n : Nat} {A : Around} {cx : Cx}
set_option maxRecDepth 10000
theorem fn_lexinit (T : Tx G P) {x : Addr} {fp : D} : FnXC G 1 (.ref 49) [.ref x, fp] (WI x 73 []) (WN fp x) .none := by
  refine FnXC.of (n := 0) (ps := ["self", "fp"]) (T.fn 49 (by decide)) rfl (vs2 fun x y => by kernel_rfl) rfl rfl rfl (by kernel_rfl) rfl rfl rfl ?_
  refine ⟨fun A env s₀ N₀ X Y s N rm w F Q E q => ?_⟩
  replace F : Fs G (fdP P 49).scope (ownNames (fdP P 49).scope) ⟨X ++ Y, s₀, N₀⟩ [("self", .imm (.ref x)), ("fp", .imm fp)] env s N := F
  refine putX (cx0 := [("self", .imm (.ref x)), ("fp", .imm fp)]) w F rm (by walk_at "sub") (EvX.pure (Ev.int (i := 1))) (Ev.name (x := "self") (by walk_at "sub")) (by rw [T.frag]; kernel_rfl) (WI.put (by simp)) fun s N X1 w1 a1 l1 F => ?_
  refine putX (cx0 := [("self", .imm (.ref x)), ("fp", .imm fp)]) w1 F rm (by walk_at "sub") (EvX.pure (Ev.name (x := "fp") (by walk_at "sub"))) (Ev.name (x := "self") (by walk_at "sub")) (by rw [T.frag]; kernel_rfl) (WI.put (by simp)) fun s N X2 w2 a2 l2 F => ?_
  refine putX (cx0 := [("self", .imm (.ref x)), ("fp", .imm fp)]) w2 F rm (by walk_at "sub") (EvX.pure (Ev.str (x := wsText))) (Ev.name (x := "self") (by walk_at "sub")) (by rw [T.frag]; kernel_rfl) (WI.put (by simp)) fun s N X3 w3 a3 l3 F => ?_
  refine putList (W' := WN fp x) (cx0 := [("self", .imm (.ref x)), ("fp", .imm fp)]) w3 F rm (by walk_at "sub") (Ev.name (x := "self") (by walk_at "sub")) (by rw [T.frag]; kernel_rfl) (fun pb => ((WI.put (by simp)).plus).weak fun N X h => ⟨pb, h⟩) fun s N X4 w4 a4 l4 F => ?_
  refine wnil ?_
  exact q _ s N _ X4 Y _ _ _ w4 (all_trans (all_trans (all_trans a1 a2) a3) a4) (((l1.trans l2).trans l3).trans l4) F rfl
theorem new_lex (T : Tx G P) {s : Shared} {N : Lg} {v : Value} {fp : D} {Q E : Value → Shared → Prop} (rm : Rm A 2) (ok : Ok G s N) (hr : Rp N v fp)
    (k : ∀ x s' N' X', GrX [] X' s N s' N' → s.heap.get? x = none → (WN fp x).P N' X' → Q (.ref x) s') : wpAny G.M A (call (.ref 73) [v]) Q E s :=
  new_x (n := 1) (fI := 49) (W' := WN fp) (by rw [T.frag]; kernel_rfl) (by rw [T.frag]; kernel_rfl) (by rw [T.frag]; kernel_rfl) (fun x => fn_lexinit T) rm ok (.one hr) k
end
end Mine
end
section
set_option tactic.hygienic false
open PySem PySem.W PyProof.Rows
namespace Mine
structure Tl (G : Gs) (P : Params) : Prop extends Tx G P where
  bm : ∃ bm ob, G.mg "__builtins__" = some (.ref bm) ∧ bm ≠ builtinsNs ∧ bm ≠ mainGlobals ∧ bm ≠ 145 ∧ G.base bm ob ∧ ob.cls = .type "module" ∧ ob.dict = some builtinsNs ∧ ob.data = .plain
noncomputable def ob149 (P : Params) : Obj := match (KP P).lookup 149 with
  | some o => o
  | none => { cls := .none, data := .plain }
noncomputable def vs149 (P : Params) : Array Value := match (ob149 P).data with
  | .fields vs => vs
  | _ => #[]
theorem codeHd {G : Gs} {P : Params} (T : Tx G P) {s : Shared} {N : Lg} (ok : Ok G s N) : CodeHd s.heap 149 145 := by
  refine ⟨ob149 P, vs149 P, "/claim/cut.py", 385, 3, 0, true, 181, 0, ok.frag _ _ (by rw [T.frag]; kernel_rfl), by kernel_rfl, by kernel_rfl, by kernel_rfl, by kernel_rfl, by kernel_rfl, by kernel_rfl, by kernel_rfl, by kernel_rfl, by decide⟩
section
variable {G : Gs} {P : Params} {n : Nat} {A : Around} {cx : Cx}
set_option maxRecDepth 10000
structure StrAt (P : Params) (N : Lg) (lf st fl c cd : Addr) (pm ctv : Value) (qual : Str) (clo : List (Str × Addr)) : Prop where
  hst : Rp N (.ref st) (.obj 73 ["read", "pushback", "whitespace", "instream", "lineno"] [.ref fl, .list [], .str wsText, .none, .int 1])
  hfn : FnAt N fl (Lexer.fd P ⟨0, 0, 0, lf, st, fl, c, cd, pm, ctv, qual, clo⟩)
  hcell : ∃ o, N c o ∧ o.data = .cell (some (.ref lf))
  hclo : clo.lookup ("left" : Str) = some c
set_option tactic.hygienic true in
theorem stream_call (T : Tl G P) {s : Shared} {N : Lg} {lf : Addr} {lo : Obj} {Q E : Value → Shared → Prop} (rm : Rm A 5) (ok : Ok G s N) (hx : Hx [(145, tabObj #[]), (lf, lo)] s N) (hlf : 145 ≠ lf)
    (k : ∀ st fl c cd pm ctv qual clo mo s' N', GrX [(145, tabObj #[]), (lf, lo)] [(145, tabObj mo), (lf, lo)] s N s' N' → StrAt P N' lf st fl c cd pm ctv qual clo → Q (.ref st) s') : wpAny G.M A (call (.ref 150) [.ref lf]) Q E s := by
  refine call_fn (n := 4) (body := bodyOf (fdP P 150)) (ps := ["left"]) (args := [.ref lf]) (E' := fun _ _ _ => False) (T.fn 150 (by decide)) rfl (by kernel_rfl) rfl rfl rfl (by kernel_rfl) rfl rfl rfl rm ok (.one (.ref lf)) (fun _ _ _ z => z.elim) ?_
  intro env s1 he rm' F
  have hX0 : ∀ p ∈ ([(145, tabObj #[]), (lf, lo)] : Xs), ∀ v, p.2.data ≠ .cell v := hx.nc
  have F0 := F.takeX hx ok (fun x ds => cxOf_imm)
  replace F0 : Fs G (fdP P 150).scope (ownNames (fdP P 150).scope) ⟨[] ++ [(145, tabObj #[]), (lf, lo)], eraseS s [(145, tabObj #[]), (lf, lo)], N⟩ [("left", .imm (.ref lf))] env s1 N := F0
  generalize hs0 : eraseS s [(145, tabObj #[]), (lf, lo)] = s0 at F0
  refine wseq ⟨?_⟩
  with_reducible refine wpAny_Assign_Name ?_ rfl
  with_reducible refine wpAny_Call_NameR ((nm_of (sc := (fdP P 150).scope) (x := "_netrclex") (by kernel_rfl) (by kernel_rfl) T.netrclex).eval F0.toVw ?_)
  refine callWith_K (first := []) F0.toOk.frag (by rw [T.frag]; kernel_rfl) ?_ rfl (by with_unfolding_all rfl)
  with_reducible refine args_cons (((Ev.none (n := 4)).go (A.deeper env) env s1 N rm' F0.toVw).go _ _ fun v0 s2 N2 g2 r2 => args_nil ?_) rfl
  have F2 := F0.gr g2
  refine ⟨F2.toOk.frag, ?_⟩
  refine new_lex T.toTx (rm'.le (by decide)) F2.toOk r2 fun x s3 N3 X3 g3 hx0 hw3 => ?_
  have w0 : WX Wd.any N [] [(145, tabObj #[]), (lf, lo)] := ⟨trivial, fun _ h => (nomatch h), fun _ h => (nomatch h)⟩
  obtain ⟨w3, _, l3, F3⟩ := w0.step (W' := WN .none x) F2 g3 hw3
  refine F3.store (x := "stream") (by simp; decide) (by kernel_rfl) (.inl (by kernel_rfl)) (.ref x) fun s4 F4 => ?_
  obtain ⟨pb, X30, rfl, hpb, hwi⟩ := w3.p
  obtain ⟨dx, od, o, m, nn, rfl, i2, i3, i4, i5, i6⟩ := hwi
  have hwi3 : ((WI x 73 (lexL .none pb)).plus pb).P N3 ([(dx, od)] ++ [(pb, listOf (List.toArray []) 0)]) := ⟨_, rfl, hpb, dx, od, o, m, nn, rfl, i2, i3, i4, i5, i6⟩
  have hd145 : dx ≠ 145 ∧ dx ≠ lf := ⟨w3.ap _ (.head _) _ (.head _), w3.ap _ (.head _) _ (.tail _ (.head _))⟩
  have hp145 : pb ≠ 145 ∧ pb ≠ lf := ⟨w3.ap _ (.tail _ (.head _)) _ (.head _), w3.ap _ (.tail _ (.head _)) _ (.tail _ (.head _))⟩
  show Wp _ _ _ _ _ _
  refine wseq ⟨?_⟩
  with_reducible refine plainObj_wpAny_Assign_Attribute ?_ rfl
  have F4r : Fs G (fdP P 150).scope (ownNames (fdP P 150).scope) ⟨[(145, tabObj #[])] ++ [(dx, od), (pb, listOf (List.toArray []) 0), (lf, lo)], s0, N3⟩ [("stream", .imm (.ref x)), ("left", .imm (.ref lf))] env s4 N3 := F4.reX fun p => by
    simp only [List.cons_append, List.nil_append, List.mem_cons, List.not_mem_nil, or_false]; constructor <;> (intro h; rcases h with h | h | h | h <;> simp [h])
  have w4 : WX Wd.any N3 [(145, tabObj #[])] [(dx, od), (pb, listOf (List.toArray []) 0), (lf, lo)] := ⟨trivial, fun p hp v => by rcases List.mem_singleton.mp hp with rfl; simp [tabObj], fun p hp q hq e => by
    rcases List.mem_singleton.mp hp with rfl
    simp only [List.mem_cons, List.not_mem_nil, or_false] at hq
    rcases hq with rfl | rfl | rfl
    · exact hd145.1 e.symm
    · exact hp145.1 e.symm
    · exact hlf e⟩
  obtain ⟨c, v0c, hc1, hc2, hc3, hc4⟩ := F4.cells "left" (by show ("left" : Str) ∈ ownNames (fdP P 150).scope; exact List.mem_of_elem_eq_true (by kernel_rfl))
  have hfree : ∀ y, (y, NameKind.free) ∈ (lamSc P).names → y = "left" := fun y hy => by
    have : ((lamSc P).names.all fun p => p.2 != .free || p.1 == "left") = true := by kernel_rfl
    have := List.all_eq_true.mp this _ hy
    simpa using this
  obtain ⟨cl, hcl, hcl1, hcl2, hcl3⟩ := closureFor_ex (scope := lamSc P) (env := env) fun y hy => ⟨c, by rw [hfree y hy]; exact hc1⟩
  have hleft : (("left" : Str), NameKind.free) ∈ (lamSc P).names := List.mem_of_elem_eq_true (by kernel_rfl)
  refine ev_lambda (P := 145) F4r.toOk (w4.hx F4r) rfl hcl F4r.envOk.globals (by rw [he]; rfl) (codeHd T.toTx F4r.toOk) T.bm (by decide) fun fl cd oc vs t ctv mo s5 N5 g5 hf5 hc5 hd5 hv5 => ?_
  obtain ⟨w5, _, l5, F5⟩ := w4.step (W' := Wd.any) F4r g5 trivial
  refine ((Ev.name (n := 4) (cx := [("stream", .imm (.ref x)), ("left", .imm (.ref lf))]) (x := "stream") (d := .ref x) (by simp)).go (A.deeper env) env s5 N5 rm' F5.toVw).go _ _ fun ov s6 N6 g6 r6 => ?_
  cases r6 with | ref =>
  have F6 := F5.gr g6
  have F6r : Fs G (fdP P 150).scope (ownNames (fdP P 150).scope) ⟨([(dx, od)] ++ [(pb, listOf (List.toArray []) 0)]) ++ [(145, tabObj mo), (lf, lo)], s0, N5⟩ [("stream", .imm (.ref x)), ("left", .imm (.ref lf))] env s6 N6 := F6.reX fun p => by
    simp only [List.cons_append, List.nil_append, List.mem_cons, List.not_mem_nil, or_false]; constructor <;> (intro h; rcases h with h | h | h | h <;> simp [h])
  have w6 : WX ((WI x 73 (lexL .none pb)).plus pb) N5 ([(dx, od)] ++ [(pb, listOf (List.toArray []) 0)]) [(145, tabObj mo), (lf, lo)] := ⟨((WI x 73 (lexL .none pb)).plus pb).mono l5.le hwi3, w3.nc, fun p hp q hq => by
    rcases List.mem_cons.mp hq with rfl | hq
    · exact w3.ap p hp (145, tabObj #[]) (.head _)
    · rcases List.mem_singleton.mp hq with rfl
      exact w3.ap p hp (lf, lo) (.tail _ (.head _))⟩
  refine put_ (name := "read") (d := .ref fl) F6r.toOk (w6.hx F6r) (w6.now F6r) (by rw [T.frag]; kernel_rfl) ((WI.put (by simp [lexL])).plus) (.ref fl) fun s7 X7 g7 hw7 => ?_
  obtain ⟨w7, a7, l7, F7⟩ := w6.step F6r g7 hw7
  show Wp _ _ _ _ _ _
  refine wseq ⟨?_⟩
  with_reducible refine wpAny_Return_some (((Ev.name (n := 4) (cx := [("stream", .imm (.ref x)), ("left", .imm (.ref lf))]) (x := "stream") (d := .ref x) (by simp)).go (A.deeper env) env s7 N6 rm' F7.toVw).go _ _ fun v8 s8 N8 g8 r8 => ?_)
  cases r8 with | ref =>
  have F8 := F7.gr g8
  have hB : Bse.Le ⟨[(145, tabObj #[]), (lf, lo)], s0, N⟩ ⟨(X7 ++ [(145, tabObj mo), (lf, lo)]) ++ [], s0, N6⟩ := by
    have p1 : Bse.Le ⟨([(dx, od)] ++ [(pb, listOf (List.toArray []) 0)]) ++ [(145, tabObj #[]), (lf, lo)], s0, N3⟩ ⟨[(145, tabObj #[])] ++ [(dx, od), (pb, listOf (List.toArray []) 0), (lf, lo)], s0, N3⟩ := ⟨rfl, fun p hp => .inl ⟨p, by
      simp only [List.cons_append, List.nil_append, List.mem_cons, List.not_mem_nil, or_false] at hp ⊢; rcases hp with h | h | h | h <;> simp [h], rfl⟩, fun _ _ e => e, fun _ _ e => .inl e⟩
    have p2 : Bse.Le ⟨[(145, tabObj mo)] ++ [(dx, od), (pb, listOf (List.toArray []) 0), (lf, lo)], s0, N5⟩ ⟨([(dx, od)] ++ [(pb, listOf (List.toArray []) 0)]) ++ [(145, tabObj mo), (lf, lo)], s0, N5⟩ := ⟨rfl, fun p hp => .inl ⟨p, by
      simp only [List.cons_append, List.nil_append, List.mem_cons, List.not_mem_nil, or_false] at hp ⊢; rcases hp with h | h | h | h <;> simp [h], rfl⟩, fun _ _ e => e, fun _ _ e => .inl e⟩
    have p3 := ((((l3.trans p1).trans l5).trans p2).trans l7)
    rw [List.append_nil]; exact p3
  have ncs : ∀ p ∈ X7 ++ [(145, tabObj mo), (lf, lo)], ∀ v, p.2.data ≠ .cell v := fun p hp v => by
    rcases List.mem_append.mp hp with hp | hp
    · exact w7.nc p hp v
    · rcases List.mem_cons.mp hp with rfl | hp
      · exact w5.nc _ (.head _) v
      · rcases List.mem_singleton.mp hp with rfl
        exact hx.nc _ (.tail _ (.head _)) v
  have gx : GrX [(145, tabObj #[]), (lf, lo)] (X7 ++ [(145, tabObj mo), (lf, lo)]) s N s8 N8 := by
    have F8' : Fs G (fdP P 150).scope (ownNames (fdP P 150).scope) ⟨(X7 ++ [(145, tabObj mo), (lf, lo)]) ++ [], s0, N6⟩ [("stream", .imm (.ref x)), ("left", .imm (.ref lf))] env s8 N8 := by rw [List.append_nil]; exact F8
    rw [← hs0] at F8' hB
    refine F8'.toGrX hB hx ncs fun q hq => ?_
    rcases List.mem_cons.mp hq with rfl | hq
    · exact ⟨(145, tabObj mo), by simp, rfl⟩
    · rcases List.mem_singleton.mp hq with rfl; exact ⟨(lf, lo), by simp, rfl⟩
  obtain ⟨X70, rfl, hpb7, dx7, od7, o7, m7, nn7, rfl, j2, j3, j4, j5, j6⟩ := hw7
  have hfresh : ∀ p ∈ [(dx7, od7)] ++ [(pb, listOf (List.toArray []) 0)], s.heap.get? p.1 = none ∧ ∀ q ∈ ([(145, tabObj #[]), (lf, lo)] : Xs), q.1 ≠ p.1 := fun p hp => by
    have hne : ∀ q ∈ ([(145, tabObj #[]), (lf, lo)] : Xs), q.1 ≠ p.1 := fun q hq e => by
      rcases List.mem_cons.mp hq with rfl | hq
      · exact w7.ap p hp (145, tabObj mo) (.head _) e.symm
      · rcases List.mem_singleton.mp hq with rfl
        exact w7.ap p hp (lf, lo) (.tail _ (.head _)) e.symm
    refine ⟨?_, hne⟩
    rcases gx.src p (List.mem_append_left _ hp) with ⟨q, hq, e⟩ | e
    · exact absurd e (hne q hq)
    · exact e
  have hdp : dx7 ≠ pb := hpb7 _ (.head _)
  have fd := hfresh (dx7, od7) (.head _)
  have fp := hfresh (pb, listOf (List.toArray []) 0) (.tail _ (.head _))
  have g1 := GrX.frz (X1 := [(dx7, od7)]) (a := pb) (o := listOf (List.toArray []) 0) (X2 := [(145, tabObj mo), (lf, lo)]) gx fp.1 fp.2 (fun p hp => by
    simp only [List.cons_append, List.nil_append, List.mem_cons, List.not_mem_nil, or_false] at hp
    rcases hp with rfl | rfl | rfl
    · exact hdp
    · exact fp.2 (145, tabObj #[]) (.head _)
    · exact fp.2 (lf, lo) (.tail _ (.head _)))
  have g2' := GrX.frz (X1 := []) (a := dx7) (o := od7) (X2 := [(145, tabObj mo), (lf, lo)]) g1 fd.1 fd.2 (fun p hp => by
    simp only [List.nil_append, List.mem_cons, List.not_mem_nil, or_false] at hp
    rcases hp with rfl | rfl
    · exact fd.2 (145, tabObj #[]) (.head _)
    · exact fd.2 (lf, lo) (.tail _ (.head _)))
  obtain ⟨vl, ⟨hn, hsee⟩, hvl⟩ := F8.vars "left" _ (.tail _ (.head _))
  cases hvl
  have hkc : env.kindOf "left" = some .cell := by show env.scope.names.lookup _ = _; rw [F8.envOk.scope]; kernel_rfl
  rcases hsee with hsee | ⟨_, c', hc', hcell⟩
  · rw [hsee.1] at hkc; cases hkc
  rw [hc1] at hc'
  cases hc'
  obtain ⟨co, hco1, hco2⟩ := hcell
  have honl : ("left" : Str) ∈ ownNames (fdP P 150).scope := List.mem_of_elem_eq_true (by kernel_rfl)
  have hcx : ∀ p ∈ ([(145, tabObj mo), (lf, lo)] : Xs), p.1 ≠ c := fun p hp e => (F8.ext p (List.mem_append_right _ hp)).2.2.2 "left" honl (by rw [hc1, e])
  have hcs : s.heap.get? c = none := by
    have h3 : s0.heap.get? c = none := hc3
    rw [← hs0, eraseS_get] at h3
    split at h3
    · rename_i hm
      exfalso
      simp only [List.map_cons, List.map_nil, List.mem_cons, List.not_mem_nil, or_false] at hm
      rcases hm with hm | hm
      · exact hcx (145, tabObj mo) (.head _) hm.symm
      · exact hcx (lf, lo) (.tail _ (.head _)) hm.symm
    · exact h3
  have g3' := g2'.frz1 hcs hco1 hcx
  have le8 : ∀ a o, N6 a o → (((N8.add pb (listOf (List.toArray []) 0)).add dx7 od7).add c co) a o := fun a o e => .inl (.inl (.inl (g8.le a o e)))
  have le5 : ∀ a o, N5 a o → (((N8.add pb (listOf (List.toArray []) 0)).add dx7 od7).add c co) a o := fun a o e => le8 a o (g6.le a o e)
  let l' : List (Str × D) := [("read", .ref fl), ("pushback", .list []), ("whitespace", .str wsText), ("instream", .none), ("lineno", .int 1)]
  obtain ⟨vs', z1, z2⟩ := zip_of (N := ((N8.add pb (listOf (List.toArray []) 0)).add dx7 od7).add c co) l' m7 (by show (["read", "pushback", "whitespace", "instream", "lineno"] : List Str).Nodup; decide +kernel) fun y => by
    have := j6 y
    by_cases h1 : y = "pushback"
    · subst h1
      have e1 : l'.lookup ("pushback" : Str) = some (.list []) := by rfl
      have e2 : ((("read" : Str), D.ref fl) :: lexL .none pb).lookup ("pushback" : Str) = some (.ref pb) := by rfl
      rw [e2] at this
      rw [e1]
      obtain ⟨v, q1, q2⟩ := this
      cases q2
      exact ⟨_, q1, .list (o := listOf (List.toArray []) 0) (vs := []) (n := 0) (.inl (.inl (Lg.add_self _ _ _))) rfl rfl .nil⟩
    · have e : l'.lookup y = ((("read" : Str), D.ref fl) :: lexL .none pb).lookup y := by
        simp only [l', lexL, List.lookup_cons, beq_false_of_ne h1]
      rw [e]
      cases q : ((("read" : Str), D.ref fl) :: lexL .none pb).lookup y with
      | none => rw [q] at this; exact this
      | some d => rw [q] at this; obtain ⟨v, q1, q2⟩ := this; exact ⟨v, q1, q2.mono le8⟩
  refine k x fl c cd _ ctv _ cl mo s8 _ g3' ⟨.obj (le8 _ _ j2) j3 (.inl (Lg.add_self _ _ _)) (j4.eq z2) z1, ⟨⟨_, le5 _ _ hf5, rfl⟩, cd, oc, vs, t, rfl, le5 _ _ hc5, hd5, hv5⟩, ⟨co, Lg.add_self _ _ _, hco2⟩, ?_⟩
  obtain ⟨c2, hc2'⟩ := Option.isSome_iff_exists.mp (hcl2 "left" hleft)
  have := hcl1 "left" c2 hc2'
  rw [hc1] at this; cases this
  exact hc2'
end
end Mine
end
section
set_option tactic.hygienic false
open PySem PySem.W PyProof.Rows
namespace Mine
theorem GrX.frame {X X' Z : Xs} {s s' : Shared} {N N' : Lg} (g : GrX X X' s N s' N') (hz : Hx Z s N) (hd : ∀ p ∈ X, ∀ q ∈ Z, p.1 ≠ q.1) : GrX (X ++ Z) (X' ++ Z) s N s' N' := by
  refine ⟨fun a o h e => g.keep a o (fun p hp => h p (List.mem_append_left _ hp)) e, g.le, g.new, g.hold, g.gens, g.os, ⟨fun p hp => ?_, fun p hp => ?_, fun p hp => ?_⟩, fun p hp => ?_, fun q hq => ?_⟩
  · rcases List.mem_append.mp hp with hp | hp
    · exact g.hx.at_ p hp
    · exact g.keep _ _ (fun q hq => hd q hq p hp) (hz.at_ p hp)
  · rcases List.mem_append.mp hp with hp | hp
    · exact g.hx.out p hp
    · exact not_new' g.new (hz.at_ p hp) (hz.out p hp)
  · rcases List.mem_append.mp hp with hp | hp
    · exact g.hx.nc p hp
    · exact hz.nc p hp
  · rcases List.mem_append.mp hp with hp | hp
    · rcases g.src p hp with ⟨q, hq, e⟩ | e
      · exact .inl ⟨q, List.mem_append_left _ hq, e⟩
      · exact .inr e
    · exact .inl ⟨p, List.mem_append_right _ hp, rfl⟩
  · rcases List.mem_append.mp hq with hq | hq
    · obtain ⟨p, hp, e⟩ := g.all q hq
      exact ⟨p, List.mem_append_left _ hp, e⟩
    · exact ⟨q, List.mem_append_right _ hq, rfl⟩
theorem GrX.perm {X X' Z : Xs} {s s' : Shared} {N N' : Lg} (g : GrX X X' s N s' N') (h : ∀ p, p ∈ Z ↔ p ∈ X') : GrX X Z s N s' N' :=
  ⟨g.keep, g.le, g.new, g.hold, g.gens, g.os, ⟨fun p hp => g.hx.at_ p ((h p).mp hp), fun p hp => g.hx.out p ((h p).mp hp), fun p hp => g.hx.nc p ((h p).mp hp)⟩, fun p hp => g.src p ((h p).mp hp), fun q hq => let ⟨p, hp, e⟩ := g.all q hq; ⟨p, (h p).mpr hp, e⟩⟩
theorem GrX.disj {X' Z : Xs} {s s' : Shared} {N N' : Lg} (g : GrX [] X' s N s' N') (hz : Hx Z s N) : ∀ p ∈ X', ∀ q ∈ Z, p.1 ≠ q.1 := fun p hp q hq e => by
  rcases g.src p hp with ⟨r, hr, _⟩ | e'
  · cases hr
  · have := hz.at_ q hq; rw [← e, e'] at this; cases this
section
variable {G : Gs} {P : Params} {n : Nat} {A : Around} {sc : Scope} {cx : Cx} {env : Env}
set_option maxRecDepth 10000
theorem ev_lexer (T : Tl G P) {l : List Nat} (hl : l.length ≤ 300) {s : Shared} {N : Lg} {Q E : Value → Shared → Prop} {e : Expr} {p1 p2 p3 p4 p5 p6 : Pos} (rm : Rm A 6) (z : Vw G sc cx env s N) (hx : Hx [(145, tabObj #[])] s N)
    (h1 : Nm G sc "_netrclex" (.ref 73)) (h2 : Nm G sc "_law_stream" (.ref 150)) (h3 : Nm G sc "list" (.type "list")) (ht : Ev G 6 sc cx e (.str (S l)))
    (k : ∀ L mo s' N' X', GrX [(145, tabObj #[])] (X' ++ [(145, tabObj mo)]) s N s' N' → (WL P L 0 1 [] l).P N' X' → (∀ v, (tabObj mo).data ≠ .cell v) → (∀ p ∈ X', p.1 ≠ 145) → Q (.ref L.x) s')
    (hs : ∀ env, starEach [e] env = (false, eval e env) :: starEach [] env := by intro _; rfl) :
    wpAny G.M A (eval (.Call (.Name "_netrclex" p1) [.Call (.Name "_law_stream" p2) [.Call (.Name "list" p3) [e] [] p4] [] p5] [] p6) env) Q E s := by
  with_reducible refine wpAny_Call_NameR (h1.eval z ?_)
  refine callWith_K (first := []) z.toOk.frag (by rw [T.frag]; kernel_rfl) ?_ rfl (by with_unfolding_all rfl)
  have fin150 := T.fn 150 (by decide)
  obtain ⟨⟨o150, ho150, hd150⟩, _⟩ := fin150
  with_reducible refine args_cons ?_ rfl
  with_reducible refine wpAny_Call_NameR (h2.eval z ?_)
  refine callWith_def (o := o150) hd150 ?_ rfl
  with_reducible refine args_cons ?_ rfl
  with_reducible refine wpAny_Call_NameR (h3.eval z (PyProof.Rows.callWith_type1 ?_ (hs env) (by with_unfolding_all rfl)))
  with_reducible refine args_cons ((ht.go A env s N rm z).go _ _ fun v s1 N1 g1 r1 => args_nil ?_) (hs env)
  refine r1.eStr ?_; intro t
  have ok1 := (z.gr g1).toOk
  refine call_list_str rm.handled (S l) t (fun h' tk acc' c' hk hg hI => ?_) (by show (S l).length ≤ _; rw [S_len]; simp only [sizeLine]; lia)
  with_reducible refine args_nil ?_
  generalize hlf : s1.heap.objs.size = lf at hg
  have hno : s1.heap.get? lf = none := Heap.get?_none_of_le (Nat.le_of_eq hlf)
  have g2 : Gr s1 N1 { s1 with heap := h', toks := tk } N1 := Gr.keeps ok1 hk rfl rfl
  have g12 := g1.trans g2
  have hN : ∀ o, ¬ N1 lf o := fun o e => by have := ok1.hold _ _ e; rw [hno] at this; cases this
  have hrl : Rps N1 acc'.toList (signD l) := by
    refine Rps.of_get _ _ ?_ fun i v d hv hd => ?_
    · have := hI.1
      simp [signD]; rw [this]; simp [S]
    · obtain ⟨c, u, h3, h4⟩ := hI.2 i v (by simpa using hv)
      simp only [signD, List.getElem?_map] at hd
      obtain ⟨c', h5, h6⟩ := Option.map_eq_some_iff.mp hd
      have : c' = c := by simp [S] at h3; rw [h3] at h5; cases h5; rfl
      subst this
      rw [h4, ← h6]; exact .str _ _
  have hat : h'.get? lf = some (listOf (List.toArray acc'.toList) c') := by rw [hg]
  have gx := GrX.fresh z.toOk hx g12 (none_of_keep g1.keep hno) hat hN (fun v => by simp)
  have okx := gx.ok z.toOk
  have h145 : 145 ≠ lf := fun e => by
    have := (hx.gr g1).at_ _ (.head _)
    have this : s1.heap.get? 145 = some (tabObj #[]) := this
    rw [e, hno] at this; cases this
  refine ⟨okx.at ho150, ?_⟩
  refine stream_call T (rm.le (by decide)) okx gx.hx h145 fun st fl c cd pm ctv qual clo mo s3 N3 g3 hs3 => ?_
  have ok3 := g3.ok okx
  with_reducible refine args_nil ?_
  refine ⟨ok3.frag, ?_⟩
  refine new_lex T.toTx (rm.le (by decide)) ok3 (.ref st) fun x s4 N4 X4 g4 hx0 hw4 => ?_
  have hdj := g4.disj g3.hx
  obtain ⟨pb, X40, rfl, hpb, dx, od, o, m, nn, rfl, j2, j3, j4, j5, j6⟩ := hw4
  have g5 := g4.frame g3.hx (fun p hp => (nomatch hp))
  have gt := (gx.trans g3 hx).trans g5 hx
  have gp : GrX [(145, tabObj #[])] ([(dx, od), (pb, listOf (List.toArray []) 0), (lf, listOf (List.toArray acc'.toList) c')] ++ [(145, tabObj mo)]) s N s4 N4 := gt.perm fun p => by
    simp only [List.cons_append, List.nil_append, List.mem_cons, List.not_mem_nil, or_false]; constructor <;> (intro h; rcases h with h | h | h | h <;> simp [h])
  have look : ∀ (y : Str) d, (lexL (.ref st) pb).lookup y = some d → ∃ v, m y = some v ∧ Rp N4 v d := fun y d e => by have := j6 y; rw [e] at this; exact this
  refine k ⟨x, dx, pb, lf, st, fl, c, cd, pm, ctv, qual, clo⟩ mo s4 N4 _ gp ⟨⟨⟨o, j2, j3⟩, hs3.hst.mono g4.le, hs3.hfn.mono g4.le, ?_, hs3.hclo, hpb _ (.head _), hdj _ (.head _) _ (.tail _ (.head _)), hdj _ (.tail _ (.head _)) _ (.tail _ (.head _))⟩, od, [], acc'.toList, m, nn, 0, c', rfl, j4, ?_, ⟨?_, ?_, ?_, ?_, fun y hy => ?_⟩, .nil, hrl.mono fun a o e => g4.le a o (g3.le a o e)⟩ (g3.hx.nc _ (.head _)) (fun p hp => ?_)
  · obtain ⟨co, q1, q2⟩ := hs3.hcell
    exact ⟨co, g4.le _ _ q1, q2⟩
  · have : nn ≤ 4 := j5
    lia
  · obtain ⟨v, q1, q2⟩ := look "lineno" (.int 1) rfl
    cases q2 with | int _ t => exact ⟨t, q1⟩
  · obtain ⟨v, q1, q2⟩ := look "instream" _ rfl
    cases q2; exact q1
  · obtain ⟨v, q1, q2⟩ := look "whitespace" (.str wsText) rfl
    cases q2 with | str _ t => exact ⟨t, q1⟩
  · obtain ⟨v, q1, q2⟩ := look "pushback" (.ref pb) rfl
    cases q2; exact q1
  · have := j6 y
    have e : (lexL (.ref st) pb).lookup y = none := by
      simp only [List.mem_cons, List.not_mem_nil, or_false] at hy
      rcases hy with rfl | rfl | rfl <;> rfl
    rw [e] at this; exact this
  · simp only [List.mem_cons, List.not_mem_nil, or_false] at hp
    rcases hp with rfl | rfl | rfl
    · exact hdj _ (.head _) _ (.head _)
    · exact hdj _ (.tail _ (.head _)) _ (.head _)
    · exact h145.symm
theorem asgLex (T : Tl G P) {l : List Nat} (hl : l.length ≤ 300) {on : List Str} {s s₀ : Shared} {N N₁ : Lg} {Y : Xs} {Q : Flow → Shared → Prop} {E : Value → Shared → Prop} {rest : List Stmt} {x : Str} {p p' p1 p2 p3 p4 p5 p6 : Pos} {e : Expr} (F : Fs G sc on ⟨[(145, tabObj #[])] ++ Y, s₀, N₁⟩ cx env s N) (hY : ∀ q ∈ Y, q.1 ≠ 145) (rm : Rm A 6)
    (h1 : Nm G sc "_netrclex" (.ref 73)) (h2 : Nm G sc "_law_stream" (.ref 150)) (h3 : Nm G sc "list" (.type "list")) (ht : Ev G 6 sc cx e (.str (S l))) (hx : canSt sc on cx x = true)
    (k : ∀ L mo s' N' X', WX (WL P L 0 1 [] l) N' X' ([(145, tabObj mo)] ++ Y) → Bse.Le ⟨[(145, tabObj #[])] ++ Y, s₀, N₁⟩ ⟨X' ++ ([(145, tabObj mo)] ++ Y), s₀, N'⟩ → Fs G sc on ⟨X' ++ ([(145, tabObj mo)] ++ Y), s₀, N'⟩ ((x, .imm (.ref L.x)) :: cx) env s' N' → Wp G A (execs rest env) Q E s')
    (hs : ∀ env, starEach [e] env = (false, eval e env) :: starEach [] env := by intro _; rfl)
    (hw : ∀ line env, EnvOk sc env → swapsWith (.Call (.Name "_netrclex" p1) [.Call (.Name "_law_stream" p2) [.Call (.Name "list" p3) [e] [] p4] [] p5] [] p6) (some (Expr.Name x p)) line env = Pure.pure false := by intro _ _ _; rfl) :
    Wp G A (execs (.Assign [.Name x p] (.Call (.Name "_netrclex" p1) [.Call (.Name "_law_stream" p2) [.Call (.Name "list" p3) [e] [] p4] [] p5] [] p6) p' :: rest) env) Q E s := by
  obtain ⟨i1, i2, i3⟩ := canSt.all hx
  refine wseq ⟨?_⟩
  have w0 : WX Wd.any N₁ [(145, tabObj #[])] Y := ⟨trivial, fun q hq v => by rcases List.mem_singleton.mp hq with rfl; simp, fun q hq r hr => by rcases List.mem_singleton.mp hq with rfl; exact (hY r hr).symm⟩
  with_reducible refine wpAny_Assign_Name (ev_lexer T hl rm F.toVw (w0.hx F) h1 h2 h3 ht (fun L mo s' N' X' gx hw' htb hne => ?_) hs) (hw _ _ F.envOk)
  obtain ⟨w1, a1, l1, F1⟩ := w0.step (W' := Wd.any) F gx trivial
  rw [List.append_assoc] at F1 l1
  refine F1.store i2 i1 i3 (.ref L.x) fun s2 F2 => k L mo s2 N' X' ⟨hw', fun q hq => w1.nc q (List.mem_append_left _ hq), fun q hq r hr => ?_⟩ l1 F2
  rcases List.mem_append.mp hr with hr | hr
  · rcases List.mem_singleton.mp hr with rfl; exact hne q hq
  · exact w1.ap q (List.mem_append_left _ hq) r hr
end
end Mine
end
section
set_option tactic.hygienic false
open PySem PySem.W PyProof.Rows
namespace Mine
noncomputable def freeIn (own : List (List Nat)) (q : List Nat) (k : Nat) : Bool := (own.getD k []).all fun m => !q.contains m
noncomputable def bnd (own : List (List Nat)) (q : List Nat) : Nat := if q = [] then 0 else q.findIdx (freeIn own q) + 1 + (q.length - 1) * (q.length - 1)
theorem min_rank (r : Nat → Nat) : ∀ (q : List Nat), q ≠ [] → ∃ k ∈ q, ∀ m ∈ q, r k ≤ r m
  | [], h => absurd rfl h
  | [k], _ => ⟨k, .head _, fun m hm => by rcases List.mem_singleton.mp hm with rfl; exact Nat.le_refl _⟩
  | k :: l :: q, _ => by
    obtain ⟨j, h1, h2⟩ := min_rank r (l :: q) (by simp)
    by_cases h : r k ≤ r j
    · exact ⟨k, .head _, fun m hm => by
        rcases List.mem_cons.mp hm with rfl | hm
        · exact Nat.le_refl _
        · exact Nat.le_trans h (h2 m hm)⟩
    · exact ⟨j, .tail _ h1, fun m hm => by
        rcases List.mem_cons.mp hm with rfl | hm
        · lia
        · exact h2 m hm⟩
theorem exists_free {own : List (List Nat)} {c : Nat} {r : Nat → Nat} (ho : Own own c r) {q : List Nat} (hq : q ≠ []) : ∃ k ∈ q, freeIn own q k = true := by
  obtain ⟨k, h1, h2⟩ := min_rank r q hq
  refine ⟨k, h1, List.all_eq_true.mpr fun m hm => ?_⟩
  have := ho.rk k m hm
  cases hc : q.contains m with
  | false => rfl
  | true =>
    have := h2 m (by simpa using hc)
    lia
theorem findIdx_lt {own : List (List Nat)} {c : Nat} {r : Nat → Nat} (ho : Own own c r) {q : List Nat} (hq : q ≠ []) : q.findIdx (freeIn own q) < q.length := by
  obtain ⟨k, h1, h2⟩ := exists_free ho hq
  exact List.findIdx_lt_length_of_exists ⟨k, h1, h2⟩
set_option tactic.hygienic true in
theorem bnd_le {own : List (List Nat)} {c : Nat} {r : Nat → Nat} (ho : Own own c r) {q : List Nat} (h4 : q.length ≤ 4) : bnd own q ≤ q.length * q.length := by
  unfold bnd
  split
  · exact Nat.zero_le _
  · rename_i hq
    have := findIdx_lt ho hq
    generalize q.length = n at *
    rcases (show n = 0 ∨ n = 1 ∨ n = 2 ∨ n = 3 ∨ n = 4 by lia) with rfl | rfl | rfl | rfl | rfl <;> lia
theorem bnd_take {own : List (List Nat)} {c : Nat} {r : Nat → Nat} (ho : Own own c r) {k : Nat} {q : List Nat} (h4 : (k :: q).length ≤ 4) : bnd own q + 1 ≤ bnd own (k :: q) := by
  have h1 := bnd_le ho (q := q) (by simp at h4; lia)
  have h2 : bnd own (k :: q) = (k :: q).findIdx (freeIn own (k :: q)) + 1 + q.length * q.length := by
    unfold bnd; rw [if_neg (by simp)]; simp
  lia
theorem bnd_turn {own : List (List Nat)} {c : Nat} {r : Nat → Nat} (ho : Own own c r) {k : Nat} {q : List Nat} (hf : freeIn own (k :: q) k = false) : bnd own (q ++ [k]) + 1 ≤ bnd own (k :: q) := by
  have hp : ∀ m, freeIn own (q ++ [k]) m = freeIn own (k :: q) m := fun m => by
    unfold freeIn
    congr 1
    funext x
    simp only [List.contains_eq_mem, List.mem_append, List.mem_cons, List.not_mem_nil, or_false]
    congr 2
    simp [or_comm]
  have hp' : freeIn own (q ++ [k]) = freeIn own (k :: q) := funext hp
  have hlt : q.findIdx (freeIn own (k :: q)) < q.length := by
    obtain ⟨j, h1, h2⟩ := exists_free ho (q := k :: q) (by simp)
    rcases List.mem_cons.mp h1 with rfl | h1
    · rw [hf] at h2; cases h2
    · exact List.findIdx_lt_length_of_exists ⟨j, h1, h2⟩
  unfold bnd
  rw [if_neg (by simp), if_neg (by simp), hp', List.findIdx_append, if_pos hlt, List.findIdx_cons, hf]
  simp
  lia
end Mine
end
section
set_option tactic.hygienic false
open PySem PySem.W PyProof.Rows
namespace Mine
noncomputable def letS (k : Nat) : Str := S [97 + k]
noncomputable def labsQ (H : Nat → Nat) (c : Nat) (q : List Nat) : List D := (List.range c).map fun k => .str (if q.contains k then "?" else blanks (H k))
theorem labsQ_flat (H : Nat → Nat) (c : Nat) (q : List Nat) : (labsQ H c q).all D.flat = true := by simp [labsQ, D.flat]
theorem labsQ_len (H : Nat → Nat) (c : Nat) (q : List Nat) : (labsQ H c q).length = c := by simp [labsQ]
theorem labsQ_get {H : Nat → Nat} {c : Nat} {q : List Nat} {k : Nat} (h : k < c) : (labsQ H c q)[k]? = some (.str (if q.contains k then "?" else blanks (H k))) := by
  unfold labsQ; rw [List.getElem?_map, List.getElem?_range h]; rfl
theorem abcd_slice {c : Nat} (h : c ≤ 4) : Txt.slice "abcd" none (some (c : Int)) = S ((List.range c).map fun k => 97 + k) := by
  rcases (show c = 0 ∨ c = 1 ∨ c = 2 ∨ c = 3 ∨ c = 4 by lia) with rfl | rfl | rfl | rfl | rfl <;> decide +kernel
theorem abcd_index {k : Nat} (h : k < 4) : ∃ rest, Builtin.Str.occurrences "abcd" (letS k) 0 ("abcd" : Str).length 1 = k :: rest := by
  rcases (show k = 0 ∨ k = 1 ∨ k = 2 ∨ k = 3 by lia) with rfl | rfl | rfl | rfl <;> exact ⟨[], by decide +kernel⟩
theorem blanks_ne (m : Nat) : blanks m ≠ "?" := fun e => by
  have h := congrArg (fun x : Str => x.cps.toList) e
  have h' : List.replicate m 32 = [63] := by
    have e63 : ("?" : Str).cps.toList = [63] := by decide +kernel
    simpa [blanks, e63] using h
  cases m with
  | zero => cases h'
  | succ m => rw [List.replicate_succ] at h'; cases h'
theorem blanks_add (a b : Nat) : blanks a ++ blanks b = blanks (a + b) := by
  show (⟨(List.replicate a 32).toArray ++ (List.replicate b 32).toArray⟩ : Str) = ⟨(List.replicate (a + b) 32).toArray⟩
  rw [List.append_toArray, List.replicate_append_replicate]
theorem labsQ_turn (H : Nat → Nat) (c k : Nat) (q : List Nat) : labsQ H c (q ++ [k]) = labsQ H c (k :: q) := by
  unfold labsQ
  apply List.map_congr_left
  intro m _
  have : (q ++ [k]).contains m = (k :: q).contains m := by
    simp only [List.contains_eq_mem, List.mem_append, List.mem_cons, List.not_mem_nil, or_false]
    congr 1
    simp [or_comm]
  rw [this]
theorem labsQ_set {H : Nat → Nat} {c k : Nat} {q : List Nat} (hk : k < c) (hq : k ∉ q) : (labsQ H c (k :: q)).set k (.str (blanks (H k))) = labsQ H c q := by
  apply List.ext_getElem?
  intro m
  rw [List.getElem?_set]
  by_cases h : k = m
  · subst h
    rw [if_pos rfl, if_pos (by rw [labsQ_len]; exact hk), labsQ_get hk, if_neg (by simpa using hq)]
  · rw [if_neg h]
    by_cases hm : m < c
    · rw [labsQ_get hm, labsQ_get hm]
      have : (k :: q).contains m = q.contains m := by
        simp only [List.contains_eq_mem, List.mem_cons]
        congr 1
        simp [show ¬ m = k from fun e => h e.symm]
      rw [this]
    · rw [List.getElem?_eq_none (by rw [labsQ_len]; lia), List.getElem?_eq_none (by rw [labsQ_len]; lia)]
theorem labsQ_nil (H : Nat → Nat) (c : Nat) : D.list (labsQ H c []) = labD ((List.range c).map H) := by
  unfold labsQ labD
  rw [List.map_map]
  congr 1
theorem str_dat_ok {x : Str} (h : PyData.strOk x = true) : ∀ n, kqdOk n (D.str x).dat = true
  | 0 => h
  | _ + 1 => h
theorem blanks_ok {m : Nat} (h : m ≤ 2) : PyData.strOk (blanks m) = true := by
  rcases (show m = 0 ∨ m = 1 ∨ m = 2 by lia) with rfl | rfl | rfl <;> decide +kernel
theorem quest_ok : PyData.strOk "?" = true := by decide +kernel
section
variable {G : Gs} {P : Params} {n : Nat} {A : Around} {cx : Cx} {L : Lexer} {ln : Nat}
set_option maxRecDepth 10000
noncomputable abbrev gT (L : Lexer) (own : List (List Nat)) (kept : List Bool) (parts : List Nat) : Cx := [("lexer", .imm (.ref L.x)), ("below", .imm (nestD own)), ("kept", .imm (boolsD kept)), ("parts", .imm (labD parts))]
theorem fn_grown (T : Tx G P) {own : List (List Nat)} {kept : List Bool} {parts : List Nat} {c : Nat} {r H : Nat → Nat} (ho : Own own c r) (hk : kept.length = c) (hp : parts.length = c)
    (hH : ∀ k, k < c → H k = parts.getD k 0 + if kept.getD k false then 0 else maxN ((own.getD k []).map H)) (h2 : ∀ k, k < c → H k ≤ 2) :
    FnXC G 6 (.ref 189) [.ref L.x, nestD own, boolsD kept, labD parts] (WL P L 0 ln [] []) (WL P L 0 ln [] []) (labD ((List.range c).map H)) := by
  refine FnXC.of (n := 5) (ps := ["lexer", "below", "kept", "parts"]) (T.fn 189 (by decide)) rfl (vs4 fun x y z u => by kernel_rfl) rfl rfl rfl (by kernel_rfl) rfl rfl rfl ?_
  refine ⟨fun A env s₀ N₀ X Y s N rm w F Q E kk => ?_⟩
  have hc4 := ho.c4
  have hlen := ho.len
  replace F : Fs G (fdP P 189).scope (ownNames (fdP P 189).scope) ⟨X ++ Y, s₀, N₀⟩ (gT L own kept parts) env s N := F
  refine asgM (x := "labels") F rm (EvM.eq (EvM.map parts (fun m => .str (blanks m)) (fun _ => .str "?") (fun m => [("part", .imm (.str (blanks m)))]) [] (EvI.list (Ev.name (x := "parts") (d := labD parts) (by walk_at "sub"))) (by kernel_rfl) (fun q h => nomatch h) (fun m _ => Tgt.name (by kernel_rfl)) (fun m _ => Ev.str (x := "?")) (by simp only [sizeLine]; lia)) (d' := labsQ H c (List.range c)) ?_) (by kernel_rfl) (hw := fun line env h => (swaps_eq h).trans (congrArg _ (by kernel_rfl))) fun s N F => ?_
  · unfold labsQ
    rw [← hp]
    apply List.ext_getElem
    · simp
    · intro i h1 h2
      simp at h1
      simp [h1]
  have hpt : (labD parts) = .list (parts.map fun m => .str (blanks m)) := rfl
  refine forX (cx0 := [("parts", .imm (labD parts))]) (items := signs (S ((List.range c).map fun k => 97 + k))) (fun i (σ : List Nat) => σ = List.range i) (fun _ => False) (fun σ => WL P L 0 ln (σ.map letS) [])
    (fun σ => (("labels", .lst (labsQ H c (List.range c))) :: gT L own kept parts)) (fun d => [("letter", .imm d)]) [] w F rm (by walk_at "sub")
    (EvIX.pure (EvI.str (Ev.eq (Ev.sliceS (Ev.str (x := "abcd")) EvP.no (EvP.int (Ev.callB (nm_bi T (by kernel_rfl) (by kernel_rfl) (by decide)) (EvL.cons (Ev.name (x := "parts") (d := labD parts) (by walk_at "sub")) .nil) (fn_lenL (ds := parts.map fun m => .str (blanks m)) (by simp only [List.length_map, sizeLine]; lia)))) (by decide)) (by rw [List.length_map, hp, abcd_slice hc4])) (by rw [← Array.all_toList, S_cps]; simp; lia))) (by walk_at "sub") rfl (fun i σ d _ _ => Tgt.name (by kernel_rfl)) ?_ ?_
  · intro i σ d s N E' Y' N₁ X1 hP hd w1 a1 l1 F
    have hi : i < c := by have := (List.getElem?_eq_some_iff.mp hd).1; rw [signs_S] at this; simpa using this
    have hd' : d = .str (letS i) := by
      rw [signs_S, List.getElem?_map, List.getElem?_map, List.getElem?_range hi] at hd
      cases hd; rfl
    subst hd'
    replace F : Fs G (fdP P 189).scope (ownNames (fdP P 189).scope) ⟨X1 ++ Y', s₀, N₁⟩ (("letter", .imm (.str (letS i))) :: ("labels", .lst (labsQ H c (List.range c))) :: gT L own kept parts) env s N := F
    refine exprX (cx0 := [("letter", .imm (.str (letS i))), ("lexer", .imm (.ref L.x))]) w1 F rm (by walk_at "sub") (EvX.meth1 (Ev.name (x := "lexer") (by walk_at "sub")) (by rw [T.frag]; kernel_rfl) WL.hasI (by simp) (EvX.pure (Ev.name (x := "letter") (by walk_at "sub"))) (FnX.le (fn_push T (by simp [hP]; lia)).x (by decide))) fun s N X2 w2 a2 l2 F => ?_
    refine wnil ⟨σ ++ [i], N, _, X2, ?_, ?_, a2, l2, F.sub (by walk_at "sub")⟩
    · rw [hP, List.range_succ]
    · rw [List.map_append]; exact w2
  · intro σ s N N₁ X1 hP w1 a1 l1 F
    have hP' : σ = List.range c := by
      rcases hP with hP | hP
      · rw [signs_S] at hP; simpa using hP
      · exact hP.elim
    subst hP'
    replace F : Fs G (fdP P 189).scope (ownNames (fdP P 189).scope) ⟨X1 ++ Y, s₀, N₁⟩ (("labels", .lst (labsQ H c (List.range c))) :: gT L own kept parts) env s N := F
    have hpow : ((c : Int) ^ (2 : Int).toNat) + 1 = ((c * c + 1 : Nat) : Int) := by
      rcases (show c = 0 ∨ c = 1 ∨ c = 2 ∨ c = 3 ∨ c = 4 by lia) with h | h | h | h | h <;> rw [h] <;> decide
    have hpow2 : (Builtin.Int.intBits (c : Int) : Int) * 2 ≤ 2 ^ 27 := by
      rcases (show c = 0 ∨ c = 1 ∨ c = 2 ∨ c = 3 ∨ c = 4 by lia) with h | h | h | h | h <;> rw [h] <;> decide +kernel
    have hcc : c * c ≤ 16 := by
      rcases (show c = 0 ∨ c = 1 ∨ c = 2 ∨ c = 3 ∨ c = 4 by lia) with h | h | h | h | h <;> rw [h] <;> decide
    refine forX (cx0 := [("parts", .imm (labD parts))]) (items := rng 0 (c * c + 1)) (fun i (σ : List Nat) => σ.Nodup ∧ (∀ k ∈ σ, k < c) ∧ σ.length ≤ c ∧ i + bnd own σ ≤ c * c) (fun _ => False) (fun σ => WL P L 0 ln (σ.map letS) [])
      (fun σ => (("labels", .lst (labsQ H c σ)) :: gT L own kept parts)) (fun d => [("step", .imm d)]) (List.range c) w1 F rm (by walk_at "sub")
      (EvIX.pure (EvI.range1 (k := c * c + 1) (b := ((c * c + 1 : Nat) : Int)) (nm_bi T (by kernel_rfl) (by kernel_rfl) (by decide)) (Ev.eq (Ev.bin (Ev.bin (Ev.callB (nm_bi T (by kernel_rfl) (by kernel_rfl) (by decide)) (EvL.cons (Ev.name (x := "parts") (d := labD parts) (by walk_at "sub")) .nil) (fn_lenL (ds := parts.map fun m => .str (blanks m)) (by simp only [List.length_map, sizeLine]; lia))) (Ev.int (i := 2)) (op_pow (by decide) (by rw [List.length_map, hp]; exact hpow2))) (Ev.int (i := 1)) op_add) (by rw [List.length_map, hp, hpow])) (.inl rfl) (by lia) (by lia))) (by walk_at "sub")
      ⟨List.nodup_range, fun k hk => by simpa using hk, by simp, ?_⟩ (fun i σ d _ _ => Tgt.name (by kernel_rfl)) ?_ ?_
    · have := bnd_le ho (q := List.range c) (by simpa using hc4)
      simpa using this
    · rintro i σ d s N E' Y' N₁ X2 ⟨p1, p2, p3, p4⟩ hd w2 a2 l2 F
      replace F : Fs G (fdP P 189).scope (ownNames (fdP P 189).scope) ⟨X2 ++ Y', s₀, N₁⟩ (("step", .imm d) :: ("labels", .lst (labsQ H c σ)) :: gT L own kept parts) env s N := F
      cases σ with
      | nil =>
        refine asgX (x := "letter") w2 F rm (cx0 := [("lexer", .imm (.ref L.x))]) (by walk_at "sub") (EvX.meth0 (W' := WL P L 0 ln [] []) (d := .str "") (Ev.name (x := "lexer") (by walk_at "sub")) (by rw [T.frag]; kernel_rfl) WL.hasI (by simp) (FnX.le (fn_token T (ws := []) (fun _ h => nomatch h) .e (by simp)).x (by decide))) (cx' := [("labels", .lst (labsQ H c []))]) (by walk_at "sub") (by kernel_rfl) fun s N X3 w3 a3 l3 F => ?_
        refine ifX (cx0 := [("letter", .imm (.str ""))]) (b := true) w3 F rm (by walk_at "sub") (EvTX.pure (EvT.eq (EvT.cmp (Ev.name (x := "letter") (d := .str "") (by walk_at "sub")) (Ev.str (x := "")) cm_eqS) (by decide +kernel))) (fun _ s N F => ?_) (fun h => nomatch h)
        obtain ⟨N', F⟩ := (F.sub (cx' := [("labels", .lst (labsQ H c []))]) (by walk_at "sub")).frz (by kernel_rfl)
        refine retX (cx0 := [("labels", .imm (.list (labsQ H c [])))]) w3 F rm (by walk_at "sub") (EvX.pure (Ev.name (x := "labels") (by walk_at "sub"))) fun v s N X4 w4 a4 l4 F r => ?_
        rw [labsQ_nil] at r
        exact kk _ s N _ X4 Y' _ _ _ w4 (all_trans (all_trans (all_trans a1 a2) a3) a4) (((l1.trans l2).trans l3).trans l4) F r
      | cons k q =>
        have hkc : k < c := p2 k (.head _)
        have hkq : k ∉ q := (List.nodup_cons.mp p1).1
        have hql : q.length ≤ 4 := by simp at p3; lia
        have hdsf : ∀ m ∈ own.getD k [], m < c := ho.lt k
        have hfew := ho.few k
        refine asgX (x := "letter") w2 F rm (cx0 := [("lexer", .imm (.ref L.x))]) (by walk_at "sub") (EvX.meth0 (W' := WL P L 0 ln (q.map letS) []) (d := .str (letS k)) (Ev.name (x := "lexer") (by walk_at "sub")) (by rw [T.frag]; kernel_rfl) WL.hasI (by simp) (FnX.le (fn_token_pb T (by simp; lia)).x (by decide))) (cx' := (("labels", .lst (labsQ H c (k :: q))) :: gT L own kept parts)) (by walk_at "sub") (by kernel_rfl) fun s N X3 w3 a3 l3 F => ?_
        refine ifX (cx0 := [("letter", .imm (.str (letS k)))]) (b := false) w3 F rm (by walk_at "sub") (EvTX.pure (EvT.eq (EvT.cmp (Ev.name (x := "letter") (d := .str (letS k)) (by walk_at "sub")) (Ev.str (x := "")) cm_eqS) (beq_false_of_ne (S_ne _)))) (fun h => nomatch h) (fun _ s N F => ?_)
        refine wnil ?_
        obtain ⟨orest, hocc⟩ := abcd_index (k := k) (by lia)
        refine asg (x := "k") F rm (Ev.meth1 mt_index (Ev.str (x := "abcd")) (EvL.cons (Ev.name (x := "letter") (d := .str (letS k)) (by walk_at "sub")) .nil) (fn_index hocc)) (by kernel_rfl) fun s N F => ?_
        refine asgC (x := "under") (own.getD k []) (fun (m : Nat) => .int m) (fun _ => true) (fun m => .str (if (k :: q).contains m then "?" else blanks (H m))) (fun m => [("m", .imm (.int m))]) [("labels", .lst (labsQ H c (k :: q)))] F rm (by kernel_rfl) (by kernel_rfl)
          (EvI.list (Ev.item (Ev.name (x := "below") (d := nestD own) (by walk_at "sub")) (Ev.name (x := "k") (by walk_at "sub")) (it_list (by lia) (by rw [Int.toNat_natCast]; exact nestD_get (by lia)) (by lia)))) (by kernel_rfl) (by walk_at "sub") (fun m _ => Tgt.name (by kernel_rfl)) (fun m _ => EvTs.nil) (fun m hm _ => ?_) (by simp only [sizeLine]; lia) fun s N F => ?_
        · have hmc := hdsf m hm
          simp only [List.cons_append, List.nil_append]
          refine Ev.lview (x := "labels") (ds := labsQ H c (k :: q)) (Ev.item (Ev.name (x := "labels") (d := .list (labsQ H c (k :: q))) (by walk_at "sub")) (Ev.name (x := "m") (by walk_at "sub")) (it_list (by lia) (by rw [Int.toNat_natCast]; exact labsQ_get hmc) (by lia))) rfl (by walk_at "sub")
        have hfilt : (own.getD k []).filter (fun _ => true) = own.getD k [] := List.filter_eq_self.mpr fun _ _ => rfl
        rw [hfilt] at F
        generalize hu : ((own.getD k []).map fun m => D.str (if (k :: q).contains m then "?" else blanks (H m))) = u at F
        replace F : Fs G (fdP P 189).scope (ownNames (fdP P 189).scope) ⟨X3 ++ Y', s₀, _⟩ (("under", .lst u) :: ("k", .imm (.int k)) :: ("letter", .imm (.str (letS k))) :: ("labels", .lst (labsQ H c (k :: q))) :: gT L own kept parts) env s N := F
        have hitems : ∀ d ∈ u, kqdOk 8 d.dat = true := fun d hd => by
          rw [← hu] at hd
          obtain ⟨m, hm, rfl⟩ := List.mem_map.mp hd
          refine str_dat_ok ?_ 8
          split
          · exact quest_ok
          · exact blanks_ok (h2 m (hdsf m hm))
        have hin : (!freeIn own (k :: q) k) = true ↔ (D.str "?").dat ∈ D.dats u := by
          rw [D.dats_mem, ← hu]
          unfold freeIn
          rw [Bool.not_eq_true', List.all_eq_false]
          constructor
          · rintro ⟨m, hm, h⟩
            refine ⟨_, List.mem_map.mpr ⟨m, hm, rfl⟩, ?_⟩
            have h' : (k :: q).contains m = true := by
              cases hc : (k :: q).contains m with
              | true => rfl
              | false => rw [hc] at h; simp at h
            rw [if_pos h']
          · rintro ⟨d, hd, e⟩
            obtain ⟨m, hm, rfl⟩ := List.mem_map.mp hd
            refine ⟨m, hm, ?_⟩
            cases hc : (k :: q).contains m with
            | true => simp
            | false =>
              rw [hc] at e
              simp only [Bool.false_eq_true, if_false, D.dat, Dat.str.injEq] at e
              exact absurd e (blanks_ne _)
        refine ifX (cx0 := [("under", .lst u)]) (b := !freeIn own (k :: q) k) w3 F rm (by walk_at "sub") (EvTX.pure (EvT.lview (x := "under") (ds := u) (EvT.cmp (Ev.str (x := "?")) (Ev.name (x := "under") (d := .list u) (by walk_at "sub")) (cm_inD (D.ok_list.mpr hitems) (str_dat_ok quest_ok 8) hin)) (by walk_at "sub"))) (fun hb s N F => ?_) (fun hb s N F => ?_)
        · have hf : freeIn own (k :: q) k = false := by simpa using hb
          refine exprX (cx0 := [("letter", .imm (.str (letS k))), ("lexer", .imm (.ref L.x))]) w3 F rm (by walk_at "sub") (EvX.meth1 (Ev.name (x := "lexer") (by walk_at "sub")) (by rw [T.frag]; kernel_rfl) WL.hasI (by simp) (EvX.pure (Ev.name (x := "letter") (by walk_at "sub"))) (FnX.le (fn_push T (by simp; lia)).x (by decide))) fun s N X4 w4 a4 l4 F => ?_
          refine wnil (wnil ⟨q ++ [k], N, _, X4, ⟨?_, ?_, ?_, ?_⟩, ?_, all_trans a3 a4, l3.trans l4, ?_⟩)
          · have hperm : (q ++ [k]).Perm (k :: q) := List.perm_append_singleton k q
            exact hperm.nodup_iff.mpr p1
          · intro m hm
            rcases List.mem_append.mp hm with hm | hm
            · exact p2 m (.tail _ hm)
            · rcases List.mem_singleton.mp hm with rfl; exact hkc
          · simp at p3 ⊢; lia
          · have := bnd_turn ho hf; lia
          · rw [List.map_append]; exact w4
          · rw [labsQ_turn]; exact F.sub (by walk_at "sub")
        · have hf : freeIn own (k :: q) k = true := by simpa using hb
          have hu' : u = ((own.getD k []).map fun m => blanks (H m)).map D.str := by
            rw [← hu, List.map_map]
            apply List.map_congr_left
            intro m hm
            have := List.all_eq_true.mp hf m hm
            have h' : (k :: q).contains m = false := by simpa using this
            rw [if_neg (by rw [h']; simp)]; rfl
          have hlong : longestS ((own.getD k []).map fun m => blanks (H m)) = blanks (maxN ((own.getD k []).map H)) := by
            have := longest_blanks (l := (own.getD k []).map H) (fun x hx => by obtain ⟨m, hm, rfl⟩ := List.mem_map.mp hx; exact h2 m (hdsf m hm))
            rw [List.map_map] at this
            exact this
          have hHk := hH k hkc
          refine setl (x := "labels") (k' := (k : Int)) (ds := labsQ H c (k :: q)) (d := .str (blanks (H k))) (cx' := (gT L own kept parts)) F rm ?_ (Ev.name (x := "k") (by walk_at "sub")) (by walk_at "sub") (by kernel_rfl) (by lia) (by lia) (by rw [labsQ_len]; lia) fun s N F => ?_
          · refine Ev.ite (b := kept.getD k false) (EvT.val (Ev.item (Ev.name (x := "kept") (d := boolsD kept) (by walk_at "sub")) (Ev.name (x := "k") (by walk_at "sub")) (it_list (by lia) (by rw [Int.toNat_natCast]; exact boolsD_get (by lia)) (by lia))) Tr.bool) (fun hb => ?_) (fun hb => ?_)
            · refine Ev.eq (Ev.item (Ev.name (x := "parts") (d := labD parts) (by walk_at "sub")) (Ev.name (x := "k") (by walk_at "sub")) (it_list (by lia) (by rw [Int.toNat_natCast]; exact labD_get (by lia)) (by lia))) ?_
              rw [hHk, if_pos hb, Nat.add_zero]
            · have hsum : maxN ((own.getD k []).map H) + parts.getD k 0 = H k := by rw [hHk, if_neg (by rw [hb]; simp)]; lia
              refine Ev.eq (Ev.bin (Ev.lview (x := "under") (ds := u) (d := .str (blanks (maxN ((own.getD k []).map H)))) (Ev.eq (Ev.call (nm_of (by kernel_rfl) (by kernel_rfl) T.longest) (T.fn 179 (by decide)) (EvL.cons (Ev.name (x := "under") (d := .list (((own.getD k []).map fun m => blanks (H m)).map D.str)) (by rw [hu']; walk_at "sub")) .nil) ((fn_longest T).le (by decide))) (by rw [hlong])) rfl (by walk_at "sub")) (Ev.item (Ev.name (x := "parts") (d := labD parts) (by walk_at "sub")) (Ev.name (x := "k") (by walk_at "sub")) (it_list (by lia) (by rw [Int.toNat_natCast]; exact labD_get (by lia)) (by lia))) (op_addS ?_)) ?_
              · have := h2 k hkc
                rw [blanks_len, blanks_len]; simp only [sizeLine]; lia
              · rw [blanks_add, hsum]
          · refine wnil (wnil ⟨q, N, _, X3, ⟨(List.nodup_cons.mp p1).2, fun m hm => p2 m (.tail _ hm), by simp at p3; lia, ?_⟩, w3, a3, l3, ?_⟩)
            · have := bnd_take ho (k := k) (q := q) (by simp at p3 ⊢; lia); lia
            · rw [Int.toNat_natCast, labsQ_set hkc hkq] at F
              exact F.sub (by walk_at "sub")
    · rintro σ s N N₁ X2 hP w2 a2 l2 F
      exfalso
      rcases hP with ⟨_, _, _, p4⟩ | h
      · simp only [rng, List.length_map, List.length_range] at p4
        lia
      · exact h
end
end Mine
end
section
set_option tactic.hygienic false
open PySem PySem.W PyProof.Rows
namespace Mine
noncomputable abbrev Row := Int × Nat
noncomputable def Row.l (r : Row) : List Nat := leadL r.1
noncomputable def Row.word (r : Row) : List Nat := leadL r.1 ++ [r.2]
noncomputable def Row.bare (r : Row) : Bool := decide (r.1 / 80 % 2 = 1)
noncomputable def Row.wr (r : Row) : List Nat := writtenL r.1 (leadL r.1) r.2
noncomputable def Row.last (r : Row) : List Nat := if r.bare then bareL r.l ++ [r.2] else [34, 92] ++ r.l ++ [r.2, 34]
noncomputable def textL : List Row → List Nat
  | [] => []
  | [r] => r.last
  | r :: q :: rs => r.wr ++ textL (q :: rs)
noncomputable def pendL (r : Row) (rs : List Row) : List Nat := if r.bare && !rs.isEmpty then [whiteOf r.1] else []
noncomputable def conL (r : Row) (rs : List Row) : List Nat := if r.bare then (if rs.isEmpty then bareL r.l ++ [r.2] else bareL r.l ++ [r.2] ++ [whiteOf r.1]) else [34, 92] ++ r.l ++ [r.2, 34]
theorem white_of (x : Int) : whiteB (whiteOf x) = true ∧ sOk (whiteOf x) = true := by
  unfold whiteOf
  split
  · exact ⟨rfl, rfl⟩
  · split
    · exact ⟨rfl, rfl⟩
    · split <;> exact ⟨rfl, rfl⟩
theorem pend_white (r : Row) (rs : List Row) : ∀ c ∈ pendL r rs, whiteB c = true := by
  unfold pendL
  split
  · intro c hc; rcases List.mem_singleton.mp hc with rfl; exact (white_of r.1).1
  · intro c hc; cases hc
theorem text_con (r : Row) (rs : List Row) : textL (r :: rs) = conL r rs ++ (pendL r rs ++ textL rs) := by
  cases rs with
  | nil =>
    show r.last = _
    unfold Row.last conL pendL textL
    by_cases hb : r.bare = true
    · simp [hb]
    · simp [hb]
  | cons q rs =>
    show r.wr ++ textL (q :: rs) = _
    unfold Row.wr conL pendL writtenL Row.bare
    by_cases hb : r.1 / 80 % 2 = 1
    · simp [hb, Row.l]
    · simp [hb, Row.l]
theorem chars_esc (l : List Nat) : charsOf (l.map fun c => (true, c)) = bareL l := by
  induction l with
  | nil => rfl
  | cons a l ih => rw [List.map_cons, charsOf_cons, ih]; rfl
theorem chars_plain (l : List Nat) : charsOf (l.map fun c => (false, c)) = l := by
  induction l with
  | nil => rfl
  | cons a l ih => rw [List.map_cons, charsOf_cons, ih]; rfl
theorem signs_map (b : Bool) (l : List Nat) : signsOf (l.map fun c => (b, c)) = l := by
  induction l with
  | nil => rfl
  | cons a l ih =>
    show a :: signsOf (l.map fun c => (b, c)) = _
    rw [ih]
theorem chars_app (a b : List Un) : charsOf (a ++ b) = charsOf a ++ charsOf b := by simp [charsOf]
theorem signs_app (a b : List Un) : signsOf (a ++ b) = signsOf a ++ signsOf b := by simp [signsOf]
noncomputable def LetOk (c : Nat) : Prop := c = 97 ∨ c = 98 ∨ c = 99 ∨ c = 100
theorem tok_row (r : Row) (rs : List Row) (hc : LetOk r.2) (h0 : rs = [] → textL rs = []) : TokIs r.word (conL r rs) (pendL r rs ++ textL rs) := by
  have hlead := leadOk r.1
  have hls : ∀ c ∈ r.l, sOk c = true ∧ c ≠ 34 ∧ c ≠ 92 := fun c hm => by rcases hlead.sg c hm with rfl | rfl <;> exact ⟨rfl, by decide, by decide⟩
  have hcs : sOk r.2 = true ∧ r.2 ≠ 34 ∧ r.2 ≠ 92 ∧ whiteB r.2 = false := by rcases hc with h | h | h | h <;> rw [h] <;> exact ⟨rfl, by decide, by decide, rfl⟩
  by_cases hb : r.bare = true
  · -- bare
    let us : List Un := (r.l.map fun c => (true, c)) ++ [(false, r.2)]
    have hus : us ≠ [] := by simp [us]
    have hok : ∀ u ∈ us, bOk u = true := fun u hu => by
      rcases List.mem_append.mp hu with hu | hu
      · obtain ⟨c, hm, rfl⟩ := List.mem_map.mp hu
        simp [bOk, (hls c hm).1]
      · rcases List.mem_singleton.mp hu with rfl
        simp [bOk, hcs]
    have hch : charsOf us = bareL r.l ++ [r.2] := by
      simp only [us]; rw [chars_app, chars_esc]; rfl
    have hsg : signsOf us = r.word := by
      simp only [us]; rw [signs_app, signs_map]; rfl
    obtain ⟨u, us', he⟩ := List.exists_cons_of_ne_nil hus
    have hu34 : u.1 = true ∨ u.2 ≠ 34 := by
      cases hl : r.l with
      | nil =>
        have : us = [(false, r.2)] := by simp only [us]; rw [hl]; rfl
        rw [this] at he; cases he
        exact .inr hcs.2.1
      | cons a l =>
        have : us = (true, a) :: ((l.map fun c => (true, c)) ++ [(false, r.2)]) := by simp only [us]; rw [hl]; rfl
        rw [this] at he; cases he
        exact .inl rfl
    rw [he] at hok hch hsg
    cases hrs : rs with
    | nil =>
      have e1 : conL r [] = charsOf (u :: us') := by rw [hch]; simp [conL, hb]
      have e2 : pendL r [] ++ textL [] = [] := by simp [pendL, textL]
      rw [e1, e2, ← hsg]
      exact .bE u us' hok hu34
    | cons q rs' =>
      have e1 : conL r (q :: rs') = charsOf (u :: us') ++ [whiteOf r.1] := by rw [hch]; simp [conL, hb]
      rw [e1, ← hsg]
      exact .b u us' (whiteOf r.1) _ hok hu34 (white_of r.1).1 (white_of r.1).2
  · -- in quotation marks
    have hb' : r.bare = false := by simpa using hb
    have hcon : conL r rs = [34, 92] ++ r.l ++ [r.2, 34] := by unfold conL; rw [hb']; rfl
    rw [hcon]
    have key : ∀ (l : List Nat) (a : Nat) (m : List Nat), l = a :: m → (∀ c ∈ l, sOk c = true ∧ c ≠ 34 ∧ c ≠ 92) → TokIs l (34 :: ((92 :: l) ++ [34])) (pendL r rs ++ textL rs) := fun l a m he hl => by
      subst he
      let us : List Un := (true, a) :: (m.map fun c => (false, c))
      have hch : charsOf us = 92 :: (a :: m) := by simp only [us]; rw [charsOf_cons, chars_plain]; rfl
      have hsg : signsOf us = a :: m := by
        show a :: signsOf (m.map fun c => (false, c)) = _
        rw [signs_map]
      have := TokIs.q us (pendL r rs ++ textL rs) fun u hu => by
        rcases List.mem_cons.mp hu with rfl | hu
        · simp [qOk, (hl a (.head _)).1]
        · obtain ⟨c, hm, rfl⟩ := List.mem_map.mp hu
          have := hl c (.tail _ hm)
          simp [qOk, this]
      rw [hch, hsg] at this
      exact this
    have hw : ∀ c ∈ r.word, sOk c = true ∧ c ≠ 34 ∧ c ≠ 92 := fun c hm => by
      rcases List.mem_append.mp hm with hm | hm
      · exact hls c hm
      · rcases List.mem_singleton.mp hm with rfl; exact ⟨hcs.1, hcs.2.1, hcs.2.2.1⟩
    obtain ⟨a, m, he⟩ := List.exists_cons_of_ne_nil (show r.word ≠ [] by simp [Row.word])
    have := key r.word a m he hw
    have e : [34, 92] ++ r.l ++ [r.2, 34] = 34 :: ((92 :: r.word) ++ [34]) := by simp [Row.word, Row.l]
    rw [e]; exact this
end Mine
end
section
set_option tactic.hygienic false
open PySem PySem.W PyProof.Rows
namespace Mine
theorem rstrip_S (l : List Nat) (a : Nat) (w : List Nat) (ha : Unicode.isSpace a = false) (hw : ∀ c ∈ w, Unicode.isSpace c = true) : Txt.rstrip (S (l ++ [a] ++ w)) = S (l ++ [a]) := by
  have htw : ((S (l ++ [a] ++ w)).cps.toList.drop 0).reverse.takeWhile Unicode.isSpace = w.reverse := by
    rw [S_cps, List.drop_zero, List.reverse_append, List.takeWhile_append_of_pos (fun c hc => hw c (List.mem_reverse.mp hc))]
    rw [List.reverse_append]
    simp [ha]
  have hhi : stripHi Unicode.isSpace true (S (l ++ [a] ++ w)) 0 = l.length + 1 := by
    show (if true then (S (l ++ [a] ++ w)).length - _ else _) = _
    rw [if_pos rfl, htw, S_len]; simp; lia
  unfold Txt.rstrip Txt.stripBy
  have hlo : stripLo Unicode.isSpace false (S (l ++ [a] ++ w)) = 0 := rfl
  unfold stripSame PySem.stripped
  rw [hlo, hhi]
  cases w with
  | nil => simp [S_len]
  | cons b w =>
    rw [if_neg (by rw [S_len]; simp)]
    show (⟨(l ++ [a] ++ b :: w).toArray.extract 0 (l.length + 1)⟩ : Str) = ⟨(l ++ [a]).toArray⟩
    congr 1
    apply Array.toList_inj.mp
    simp
    rw [show l.length + 1 = (l ++ [a]).length by simp, show l ++ a :: b :: w = (l ++ [a]) ++ b :: w by simp, List.take_left]
theorem sub_at (l : List Nat) (c i : Nat) (hi : i < l.length) : Builtin.Str.subAt (S l) (S [c]) i = decide (l[i] = c) := by
  unfold Builtin.Str.subAt
  have e : (S l).cps.extract i (i + (S [c]).length) = #[l[i]] := by
    apply Array.toList_inj.mp
    rw [S_len]
    simp [S]
    rw [List.drop_eq_getElem_cons hi]; rfl
  rw [e]
  show (#[l[i]] == #[c]) = _
  by_cases h : l[i] = c
  · rw [h]; simp
  · simp [h]
theorem count_loop (l : List Nat) (c : Nat) : ∀ (k i : Nat) (f : Array Nat) (free : Nat), free ≤ i → f.size ≤ i → i + k = l.length + 1 →
    (forIn (List.range' i k) (f, free) (PySem.StrLaws.occBody (S l) (S [c]) l.length (l.length + 1))).run.fst.size = f.size + ((l.drop i).filter (· = c)).length
  | 0, i, f, free, h1, h2, h3 => by
    have : l.drop i = [] := List.drop_eq_nil_of_le (by lia)
    rw [this]; simp
  | k + 1, i, f, free, h1, h2, h3 => by
    rw [List.range'_succ, List.forIn_cons]
    unfold PySem.StrLaws.occBody
    by_cases hi : i < l.length
    · have hd : l.drop i = l[i] :: l.drop (i + 1) := List.drop_eq_getElem_cons hi
      rw [hd, List.filter_cons]
      by_cases hc : l[i] = c
      · rw [if_pos ⟨⟨⟨by simp; lia, h1⟩, by rw [S_len]; simp; lia⟩, by rw [sub_at l c i hi]; simpa using hc⟩]
        rw [if_pos (by simpa using hc)]
        have := count_loop l c k (i + 1) (f.push i) (i + (S [c]).length) (by rw [S_len]; simp) (by simp; lia) (by lia)
        simp only [List.length_cons]
        rw [show f.size + (((l.drop (i + 1)).filter (· = c)).length + 1) = (f.push i).size + ((l.drop (i + 1)).filter (· = c)).length by simp; lia]
        exact this
      · rw [if_neg (by rw [sub_at l c i hi]; simp [hc]), if_neg (by simpa using hc)]
        exact count_loop l c k (i + 1) f free (by lia) (by lia) (by lia)
    · rw [if_neg (by rw [S_len]; simp; lia)]
      have : l.drop i = [] := List.drop_eq_nil_of_le (by lia)
      rw [this]
      have := count_loop l c k (i + 1) f free (by lia) (by lia) (by lia)
      rw [show l.drop (i + 1) = [] from List.drop_eq_nil_of_le (by lia)] at this
      exact this
theorem count_S (l : List Nat) (c : Nat) : Txt.count (S l) (S [c]) = ((l.filter (· = c)).length : Nat) := by
  unfold Txt.count
  rw [PySem.StrLaws.occ_eq, Array.length_toList, S_len]
  have := count_loop l c (l.length + 1) 0 #[] 0 (Nat.le_refl _) (Nat.zero_le _) (by lia)
  rw [show l.length + 1 - 0 = l.length + 1 by lia, this]
  simp
theorem lnAll_count (l : List Nat) : ∀ ln, lnAll ln l = ln + (l.filter (· = 10)).length := by
  induction l with
  | nil => intro ln; simp [lnAll]
  | cons a l ih =>
    intro ln
    show lnAll (lnOf ln a) l = _
    rw [ih, List.filter_cons]
    unfold lnOf
    by_cases h : a = 10
    · simp [h]; lia
    · simp [h]
theorem textL_last : ∀ (rs : List Row), rs ≠ [] → ∃ l a w, rs.flatMap Row.wr = l ++ [a] ++ w ∧ textL rs = l ++ [a] ∧ (a = 34 ∨ ∃ r ∈ rs, a = r.2) ∧ ∀ c ∈ w, whiteB c = true
  | [], h => absurd rfl h
  | [r], _ => by
    show ∃ l a w, [r].flatMap Row.wr = _ ∧ r.last = _ ∧ _
    unfold Row.last Row.wr writtenL Row.bare
    by_cases hb : r.1 / 80 % 2 = 1
    · refine ⟨bareL r.l, r.2, [whiteOf r.1, whiteOf r.1], by simp [hb, Row.l], by simp [hb], .inr ⟨r, .head _, rfl⟩, fun c hc => ?_⟩
      simp at hc; rw [hc]; exact (white_of r.1).1
    · refine ⟨[34, 92] ++ r.l ++ [r.2], 34, [], by simp [hb, Row.l], by simp [hb], .inl rfl, fun c hc => nomatch hc⟩
  | r :: q :: rs, _ => by
    obtain ⟨l, a, w, h1, h2, h3, h4⟩ := textL_last (q :: rs) (by simp)
    refine ⟨r.wr ++ l, a, w, ?_, ?_, ?_, h4⟩
    · rw [List.flatMap_cons, h1]; simp
    · show r.wr ++ textL (q :: rs) = _
      rw [h2]; simp
    · rcases h3 with h3 | ⟨p, hp, h3⟩
      · exact .inl h3
      · exact .inr ⟨p, .tail _ hp, h3⟩
theorem rstrip_text (rs : List Row) (hne : rs ≠ []) (hl : ∀ r ∈ rs, LetOk r.2) : Txt.rstrip (S (rs.flatMap Row.wr)) = S (textL rs) := by
  obtain ⟨l, a, w, h1, h2, h3, h4⟩ := textL_last rs hne
  rw [h1, h2]
  have sp : ∀ c ∈ [9, 10, 13, 32], Unicode.isSpace c = true := by decide +kernel
  have ns : ∀ c ∈ [34, 97, 98, 99, 100], Unicode.isSpace c = false := by decide +kernel
  refine rstrip_S l a w (ns a ?_) fun c hc => sp c (by simpa [whiteB] using h4 c hc)
  rcases h3 with h3 | ⟨r, hr, h3⟩
  · simp [h3]
  · rcases hl r hr with h | h | h | h <;> simp [h3, h]
end Mine
end
section
set_option tactic.hygienic false
open PySem PySem.W PyProof.Rows
namespace Mine
noncomputable def rowAt (rs : List Row) (i : Nat) : Row := rs.getD i (0, 97)
noncomputable def pendAt (rs : List Row) : Nat → List Nat
  | 0 => []
  | i + 1 => pendL (rowAt rs i) (rs.drop (i + 1))
noncomputable def conAt (rs : List Row) (i : Nat) : List Nat := conL (rowAt rs i) (rs.drop (i + 1))
noncomputable def remAt (rs : List Row) (i : Nat) : List Nat := pendAt rs i ++ textL (rs.drop i)
noncomputable def lnAt (rs : List Row) : Nat → Nat
  | 0 => 1
  | i + 1 => lnAll (lnAt rs i) (pendAt rs i ++ conAt rs i)
theorem drop_row {rs : List Row} {i : Nat} (h : i < rs.length) : rs.drop i = rowAt rs i :: rs.drop (i + 1) := by
  rw [List.drop_eq_getElem_cons h]
  unfold rowAt
  rw [List.getD_eq_getElem?_getD, List.getElem?_eq_getElem h]; rfl
theorem rem_step {rs : List Row} {i : Nat} (h : i < rs.length) : remAt rs i = pendAt rs i ++ (conAt rs i ++ remAt rs (i + 1)) := by
  show pendAt rs i ++ textL (rs.drop i) = _
  rw [drop_row h, text_con]
  rfl
theorem pendAt_white (rs : List Row) (i : Nat) : ∀ c ∈ pendAt rs i, whiteB c = true := by
  cases i with
  | zero => intro c hc; cases hc
  | succ i => exact pend_white _ _
theorem ln_text {rs : List Row} : ∀ (i : Nat), i ≤ rs.length → lnAll (lnAt rs i) (remAt rs i) = lnAll 1 (textL rs)
  | 0, _ => by show lnAll 1 ([] ++ textL (rs.drop 0)) = _; simp
  | i + 1, h => by
    rw [← ln_text i (by lia), rem_step (show i < rs.length by lia), ← List.append_assoc, lnAll_app]
    rfl
theorem rem_end {rs : List Row} (hne : rs ≠ []) : remAt rs rs.length = [] := by
  unfold remAt
  rw [List.drop_length]
  show _ ++ [] = []
  rw [List.append_nil]
  cases h : rs.length with
  | zero => rfl
  | succ n =>
    show pendL _ (rs.drop (n + 1)) = []
    rw [← h, List.drop_length]
    simp [pendL]
theorem rem_len (rs : List Row) (i : Nat) : (remAt rs i).length ≤ 12 * rs.length + 1 := by
  unfold remAt
  have h1 : (pendAt rs i).length ≤ 1 := by
    cases i with
    | zero => simp [pendAt]
    | succ i => show (pendL _ _).length ≤ 1; unfold pendL; split <;> simp
  have h2 : (textL (rs.drop i)).length ≤ 12 * rs.length := by
    by_cases h : rs.drop i = []
    · rw [h]; simp [textL]
    · have hw : ∀ r : Row, r.wr.length ≤ 12 := fun r => by
        have h := leadL_small r.1
        have h2 := bareL_len (leadL r.1)
        unfold Row.wr writtenL
        split <;> simp only [List.length_append, List.length_cons, List.length_nil] <;> lia
      have ha : ∀ (rs : List Row), (rs.flatMap Row.wr).length ≤ 12 * rs.length := fun rs => by
        induction rs with
        | nil => simp
        | cons r rs ih => have := hw r; rw [List.flatMap_cons, List.length_append, List.length_cons]; lia
      obtain ⟨l, a, w, e1, e2, _, _⟩ := textL_last _ h
      have := ha (rs.drop i)
      rw [e1] at this
      rw [e2]
      have hd : (rs.drop i).length ≤ rs.length := by rw [List.length_drop]; lia
      simp only [List.length_append] at this ⊢; lia
  rw [List.length_append]; lia
section
variable {G : Gs} {P : Params} {L : Lexer}
theorem fn_tokAt (T : Tx G P) {rs : List Row} (h4 : rs.length ≤ 4) (hl : ∀ r ∈ rs, LetOk r.2) {i : Nat} (h : i < rs.length) :
    FnXC G 4 (.ref 63) [.ref L.x] (WL P L 0 (lnAt rs i) [] (remAt rs i)) (WL P L 0 (lnAt rs (i + 1)) [] (remAt rs (i + 1))) (.str (S (rowAt rs i).word)) := by
  have hr : rowAt rs i ∈ rs := by
    have : rowAt rs i ∈ rs.drop i := by rw [drop_row h]; exact .head _
    exact List.mem_of_mem_drop this
  have ht := tok_row (rowAt rs i) (rs.drop (i + 1)) (hl _ hr) (fun e => by rw [e]; rfl)
  have hrl := rem_len rs i
  rw [rem_step h] at hrl ⊢
  have := fn_token (G := G) (P := P) (L := L) (ln := lnAt rs i) T (ws := pendAt rs i) (con := conAt rs i) (rest := remAt rs (i + 1)) (tok := (rowAt rs i).word) (pendAt_white rs i) ht (by simp only [List.length_append] at hrl; lia)
  exact this
theorem fn_tokEnd (T : Tx G P) {ln : Nat} : FnXC G 4 (.ref 63) [.ref L.x] (WL P L 0 ln [] []) (WL P L 0 ln [] []) (.str "") :=
  fn_token T (ws := []) (fun _ h => nomatch h) .e (by simp)
end
end Mine
end
section
set_option tactic.hygienic false
open PySem PySem.W PyProof.Rows
namespace Mine
noncomputable def cntL (ms : List Int) : Nat := 3 + ms.length / 2 % 2
noncomputable def pickI (ms : List Int) (lo hi st : Option Int) : List Int := (sliceRange (sliceBounds lo hi st ms.length).1 (sliceBounds lo hi st ms.length).2.1 (sliceBounds lo hi st ms.length).2.2).filterMap (ms[·]?)
theorem pickD_int (ms : List Int) (lo hi st : Option Int) : pickD (ms.map D.int) lo hi st = (pickI ms lo hi st).map .int := by
  unfold pickD pickI
  rw [List.length_map, List.map_filterMap]
  congr 1
  funext i
  rw [List.getElem?_map]
noncomputable def startsL : List Int := [1, 87, 103, 34]
noncomputable def numL (ms : List Int) (k : Nat) : Int := startsL.getD k 0 + (pickI ms (some (k : Int)) (some 20) (some (cntL ms : Int))).sum
noncomputable def numsL (ms : List Int) : List Int := (List.range (cntL ms)).map (numL ms)
noncomputable def keptL (ms : List Int) : List Bool := (numsL ms).map fun x => decide (x / 80 % 2 = 0)
noncomputable def rowsL (ms : List Int) : List Row := (List.range (cntL ms)).map fun k => (numL ms k, 97 + k)
theorem cnt_le (ms : List Int) : cntL ms ≤ 4 ∧ 3 ≤ cntL ms := by unfold cntL; lia
theorem numsL_len (ms : List Int) : (numsL ms).length = cntL ms := by simp [numsL]
theorem keptL_len (ms : List Int) : (keptL ms).length = cntL ms := by simp [keptL, numsL_len]
theorem rowsL_len (ms : List Int) : (rowsL ms).length = cntL ms := by simp [rowsL]
theorem signs_abcd : signs "abcd" = [.str (S [97]), .str (S [98]), .str (S [99]), .str (S [100])] := by
  have e : ("abcd" : Str).cps.toList = [97, 98, 99, 100] := by decide +kernel
  unfold signs; rw [e]; rfl
theorem zip_rows (ms : List Int) : zipD ((numsL ms).map .int) (signs "abcd") = (rowsL ms).map fun r => pairD (.int r.1) (.str (S [r.2])) := by
  have hc := cnt_le ms
  rw [signs_abcd]
  unfold numsL rowsL zipD
  rcases (show cntL ms = 3 ∨ cntL ms = 4 by lia) with h | h <;> rw [h] <;> rfl
theorem zip_rows2 (ms : List Int) : zipD ((numsL ms).map .int) ((rowsL ms).map fun r => .str (S r.word)) = (rowsL ms).map fun r => pairD (.int r.1) (.str (S r.word)) := by
  unfold numsL rowsL zipD
  rw [List.map_map, List.map_map, List.map_map, List.zip_map', List.map_map]
  rfl
theorem rows_let (ms : List Int) : ∀ r ∈ rowsL ms, LetOk r.2 := fun r hr => by
  obtain ⟨k, hk, rfl⟩ := List.mem_map.mp hr
  have := cnt_le ms
  have hk' : k < cntL ms := by simpa using hk
  show 97 + k = 97 ∨ 97 + k = 98 ∨ 97 + k = 99 ∨ 97 + k = 100
  lia
theorem wr_len (r : Row) : r.wr.length ≤ 12 := by
  have h := leadL_small r.1
  have h2 := bareL_len (leadL r.1)
  unfold Row.wr writtenL
  split <;> simp only [List.length_append, List.length_cons, List.length_nil] <;> lia
theorem wr_all : ∀ (rs : List Row), (rs.map Row.wr).flatten.length ≤ 12 * rs.length
  | [] => by simp
  | r :: rs => by
    have := wr_len r
    have := wr_all rs
    simp only [List.map_cons, List.flatten_cons, List.length_append, List.length_cons]; lia
theorem text_len (rs : List Row) (hne : rs ≠ []) : (textL rs).length ≤ 12 * rs.length := by
  obtain ⟨l, a, w, h1, h2, _, _⟩ := textL_last rs hne
  have := wr_all rs
  rw [← List.flatMap_def, h1] at this
  rw [h2]
  simp only [List.length_append] at this ⊢; lia
theorem rows_ne (ms : List Int) : rowsL ms ≠ [] := fun e => by
  have h := rowsL_len ms
  rw [e] at h
  have := cnt_le ms
  simp at h; lia
section
variable {G : Gs} {P : Params} {n : Nat} {A : Around} {env : Env} {s s₀ : Shared} {N N₀ : Lg} {Y : Xs}
set_option maxRecDepth 10000
noncomputable abbrev sc194 (P : Params) : Scope := (fdP P 194).scope
noncomputable def cx6 (ms : List Int) (L : Lexer) : Cx := [("lexer", .imm (.ref L.x)), ("text", .imm (.str (S (textL (rowsL ms))))), ("words", .imm (.list ((rowsL ms).map fun r => .str (S r.word)))), ("kept", .imm (.list ((keptL ms).map .bool))), ("numbers", .imm (.list ((numsL ms).map .int))), ("count", .imm (.int (cntL ms : Nat))), ("script", .imm (.list (ms.map .int)))]
theorem law_walk1 (T : Tl G P) {ms : List Int} (hms : ms.length ≤ 63) (rm : Rm A 10) (hY : ∀ q ∈ Y, q.1 ≠ 145) (F : Fs G (sc194 P) (ownNames (sc194 P)) ⟨[(145, tabObj #[])] ++ Y, s₀, N₀⟩ [("script", .imm (.list (ms.map .int)))] env s N) {Q : Flow → Shared → Prop} {E : Value → Shared → Prop}
    (k : ∀ L mo s N N₁ X, WX (WL P L 0 1 [] (textL (rowsL ms))) N₁ X ([(145, tabObj mo)] ++ Y) → Bse.Le ⟨[(145, tabObj #[])] ++ Y, s₀, N₀⟩ ⟨X ++ ([(145, tabObj mo)] ++ Y), s₀, N₁⟩ → Fs G (sc194 P) (ownNames (sc194 P)) ⟨X ++ ([(145, tabObj mo)] ++ Y), s₀, N₁⟩ (cx6 ms L) env s N → Wp G A (execs ((bodyOf (fdP P 194)).drop 6) env) Q E s) : Wp G A (execs (bodyOf (fdP P 194)) env) Q E s := by
  have hc := cnt_le ms
  refine asg (x := "count") F rm (Ev.eq (Ev.bin (Ev.int (i := 3)) (Ev.bin (Ev.bin (Ev.callB (nm_bi T.toTx (by kernel_rfl) (by kernel_rfl) (by decide)) (EvL.cons (Ev.name (x := "script") (by walk_at "sub")) .nil) (fn_lenL (by simp only [List.length_map, sizeLine]; lia))) Ev.int (op_div (by decide) (by decide))) Ev.int (op_mod (by decide))) op_add) (d' := .int (cntL ms : Nat)) ?_) (by kernel_rfl) (hw := fun line env h => rfl) fun s N F => ?_
  · rw [List.length_map, fdivP (by decide), fmodP (by decide)]
    congr 1
  refine asgC (x := "numbers") (List.range (cntL ms)) (fun (k : Nat) => .int (0 + (k : Int))) (fun _ => true) (fun k => .int (numL ms k)) (fun k => [("k", .imm (.int (0 + (k : Int))))]) [("script", .imm (.list (ms.map .int))), ("count", .imm (.int (cntL ms : Nat)))] F rm (by kernel_rfl) (by kernel_rfl)
    (EvI.range1 (k := cntL ms) (b := (cntL ms : Nat)) (nm_bi T.toTx (by kernel_rfl) (by kernel_rfl) (by decide)) (Ev.name (x := "count") (by walk_at "sub")) (.inl rfl) (by lia) (by lia)) (by kernel_rfl) (by walk_at "sub") (fun k _ => Tgt.name (by kernel_rfl)) (fun k _ => EvTs.nil) (fun k hk _ => ?_) (by simp only [List.length_range, sizeLine]; lia) fun s N F => ?_
  · have hkc : k < cntL ms := by simpa using hk
    simp only [List.cons_append, List.nil_append]
    have e0 : (0 : Int) + (k : Int) = ((k : Nat) : Int) := by lia
    rw [e0]
    refine Ev.bin (d1 := .int (startsL.getD k 0)) (d2 := .int ((pickI ms (some (k : Int)) (some 20) (some (cntL ms : Int))).sum)) (Ev.item (Ev.tuple (EvL.cons (Ev.int (i := 1)) (EvL.cons (Ev.int (i := 87)) (EvL.cons (Ev.int (i := 103)) (EvL.cons (Ev.int (i := 34)) .nil)))) (by simp [sizeLine])) (Ev.name (x := "k") (by walk_at "sub")) (it_tuple (by lia) ?_ (by lia))) (Ev.callB (nm_bi T.toTx (by kernel_rfl) (by kernel_rfl) (by decide)) (EvL.cons (EvM.ev (EvM.eq (EvM.sliceL (Ev.name (x := "script") (by walk_at "sub")) (EvP.int (Ev.name (x := "k") (by walk_at "sub"))) (EvP.int Ev.int) (EvP.int (Ev.name (x := "count") (by walk_at "sub"))) (by simp; lia) (by simp only [List.length_map, sizeLine]; lia)) (pickD_int ms _ _ _))) .nil) fn_sum) op_add
    rw [Int.toNat_natCast]
    rcases (show k = 0 ∨ k = 1 ∨ k = 2 ∨ k = 3 by lia) with rfl | rfl | rfl | rfl <;> rfl
  have hnum : ((List.range (cntL ms)).filter (fun _ => true)).map (fun k => D.int (numL ms k)) = (numsL ms).map .int := by
    rw [List.filter_eq_self.mpr fun _ _ => rfl]; unfold numsL; rw [List.map_map]; rfl
  rw [hnum] at F
  obtain ⟨N1, F⟩ := F.frz (by kernel_rfl)
  refine asg (x := "kept") F rm (EvM.ev (EvM.eq (EvM.map (numsL ms) .int (fun x => .bool (decide (x / 80 % 2 = 0))) (fun x => [("x", .imm (.int x))]) [] (EvI.list (Ev.name (x := "numbers") (by walk_at "sub"))) (by kernel_rfl) (fun q h => nomatch h) (fun x _ => Tgt.name (by kernel_rfl)) (fun x _ => ?_) (by rw [numsL_len]; simp only [sizeLine]; lia)) (d' := (keptL ms).map .bool) (by unfold keptL; rw [List.map_map]; rfl))) (by kernel_rfl) (hw := fun line env h => (swaps_eq h).trans (congrArg _ (by kernel_rfl))) fun s N F => ?_
  · simp only [List.cons_append, List.nil_append]
    refine Ev.eq (Ev.cmp (Ev.bin (Ev.bin (Ev.name (x := "x") (by walk_at "sub")) Ev.int (op_div (by decide) (by decide))) Ev.int (op_mod (by decide))) Ev.int cm_eq) ?_
    rw [fdivP (by decide), fmodP (by decide)]; rfl
  refine asgC (x := "words") (rowsL ms) (fun r => pairD (.int r.1) (.str (S [r.2]))) (fun _ => true) (fun r => .str (S r.word)) (fun r => [("letter", .imm (.str (S [r.2]))), ("x", .imm (.int r.1))]) [] F rm (by kernel_rfl) (by kernel_rfl)
    (by rw [← zip_rows]; exact EvI.zipLS (nm_bi T.toTx (by kernel_rfl) (by kernel_rfl) (by decide)) (Ev.name (x := "numbers") (by walk_at "sub")) (Ev.str (x := "abcd")) (by decide +kernel)) (by kernel_rfl) (fun q h => nomatch h) (fun r _ => Tgt.tuple2 (by kernel_rfl) (by kernel_rfl)) (fun r _ => EvTs.nil) (fun r hr _ => ?_) (by rw [rowsL_len]; simp only [sizeLine]; lia) fun s N F => ?_
  · simp only [List.cons_append, List.nil_append]
    exact Ev.call (nm_of (by kernel_rfl) (by kernel_rfl) T.word) (T.fn 155 (by decide)) (EvL.cons (Ev.name (x := "x") (by walk_at "sub")) (EvL.cons (Ev.name (x := "letter") (by walk_at "sub")) .nil)) ((fn_word T.toTx).le (by decide))
  rw [List.filter_eq_self.mpr fun _ _ => rfl] at F
  obtain ⟨N2, F⟩ := F.frz (by kernel_rfl)
  have hwl := wr_all (rowsL ms)
  have hrl := rowsL_len ms
  have hjl : Txt.join "" (((rowsL ms).map Row.wr).map S) = S ((rowsL ms).flatMap Row.wr) := by rw [join_S, ← List.flatMap_def]
  refine asg (x := "text") F rm (Ev.eq (Ev.meth0 mt_rstrip (Ev.meth1 mt_join (Ev.str (x := "")) (EvL.cons (EvM.ev (EvM.eq (EvM.map (rowsL ms) (fun r => pairD (.int r.1) (.str (S r.word))) (fun r => .str (S r.wr)) (fun r => [("word", .imm (.str (S r.word))), ("x", .imm (.int r.1))]) []
    (by rw [← zip_rows2]; exact EvI.zip (nm_bi T.toTx (by kernel_rfl) (by kernel_rfl) (by decide)) (Ev.name (x := "numbers") (d := .list ((numsL ms).map .int)) (by walk_at "sub")) (Ev.name (x := "words") (d := .list ((rowsL ms).map fun r => .str (S r.word))) (by walk_at "sub"))) (by kernel_rfl) (fun q h => nomatch h) (fun r _ => Tgt.tuple2 (by kernel_rfl) (by kernel_rfl)) (fun r hr => ?_) (by rw [rowsL_len]; simp only [sizeLine]; lia))
    (d' := (((rowsL ms).map Row.wr).map S).map .str) (by rw [List.map_map, List.map_map]; rfl))) .nil) (fn_join (joinOk_S (by lia)))) (fn_rstrip ?_)) (d' := .str (S (textL (rowsL ms)))) ?_) (by kernel_rfl) fun s N F => ?_
  · simp only [List.cons_append, List.nil_append]
    exact Ev.call (nm_of (by kernel_rfl) (by kernel_rfl) T.written) (T.fn 160 (by decide)) (EvL.cons (Ev.name (x := "x") (by walk_at "sub")) (EvL.cons (Ev.name (x := "word") (d := .str (S r.word)) (by walk_at "sub")) .nil)) ((fn_written (x := r.1) (l := leadL r.1) (c := r.2) T.toTx (leadOk r.1)).le (by decide))
  · rw [hjl, S_len, List.flatMap_def]; simp only [sizeLine]; lia
  · rw [hjl, rstrip_text _ (rows_ne ms) (rows_let ms)]
  have htl := text_len (rowsL ms) (rows_ne ms)
  refine asgLex (x := "lexer") T (l := textL (rowsL ms)) (by lia) F hY (rm.le (by decide)) (nm_of (by kernel_rfl) (by kernel_rfl) T.netrclex) (nm_of (by kernel_rfl) (by kernel_rfl) T.stream) (nm_bi T.toTx (by kernel_rfl) (by kernel_rfl) (by decide)) (Ev.name (x := "text") (by walk_at "sub")) (by kernel_rfl) fun L mo s N X w l1 F => ?_
  exact k L mo s N N X w l1 F
noncomputable def cameL (ms : List Int) : List Str := ((rowsL ms).map fun r => S r.word) ++ [("" : Str)]
theorem law_walk2 (T : Tl G P) {ms : List Int} {L : Lexer} {N₁ : Lg} {X : Xs} (rm : Rm A 10) (w : WX (WL P L 0 1 [] (textL (rowsL ms))) N₁ X Y) (F : Fs G (sc194 P) (ownNames (sc194 P)) ⟨X ++ Y, s₀, N₁⟩ (cx6 ms L) env s N) {Q : Flow → Shared → Prop} {E : Value → Shared → Prop}
    (k : ∀ s N N₂ X', WX (WL P L 0 (lnAll 1 (textL (rowsL ms))) [] []) N₂ X' Y → AllX X X' → Bse.Le ⟨X ++ Y, s₀, N₁⟩ ⟨X' ++ Y, s₀, N₂⟩ → Fs G (sc194 P) (ownNames (sc194 P)) ⟨X' ++ Y, s₀, N₂⟩ (("came", .imm (.list ((cameL ms).map .str))) :: cx6 ms L) env s N → Wp G A (execs ((bodyOf (fdP P 194)).drop 8) env) Q E s) :
    Wp G A (execs ((bodyOf (fdP P 194)).drop 6) env) Q E s := by
  have hc := cnt_le ms
  have hrl := rowsL_len ms
  have hle := rows_let ms
  replace F : Fs G (sc194 P) (ownNames (sc194 P)) ⟨X ++ Y, s₀, N₁⟩ [("lexer", .imm (.ref L.x)), ("text", .imm (.str (S (textL (rowsL ms))))), ("words", .imm (.list ((rowsL ms).map fun r => .str (S r.word)))), ("kept", .imm (.list ((keptL ms).map .bool))), ("numbers", .imm (.list ((numsL ms).map .int))), ("count", .imm (.int (cntL ms : Nat))), ("script", .imm (.list (ms.map .int)))] env s N := F
  have hme : methOk G.K 73 "get_token" 63 = true := by rw [T.frag]; kernel_rfl
  have hmp : methOk G.K 73 "push_token" 70 = true := by rw [T.frag]; kernel_rfl
  have w' : WX (WL P L 0 (lnAt (rowsL ms) 0) [] (remAt (rowsL ms) 0)) N₁ X Y := w
  refine exprX (cx0 := [("lexer", .imm (.ref L.x))]) w' F rm (by walk_at "sub") (EvX.meth1 (Ev.name (x := "lexer") (by walk_at "sub")) hmp WL.hasI (by simp) (EvX.meth0 (Ev.name (x := "lexer") (by walk_at "sub")) hme WL.hasI (by simp) (FnX.le (fn_tokAt T.toTx (rs := rowsL ms) (i := 0) (by lia) hle (by lia)).x (by decide))) (FnX.le (fn_push T.toTx (by simp)).x (by decide))) fun s N X1 w1 a1 l1 F => ?_
  let Wf : Nat → Wd := fun i => match i with | 0 => WL P L 0 (lnAt (rowsL ms) 1) [S (rowAt (rowsL ms) 0).word] (remAt (rowsL ms) 1) | i + 1 => WL P L 0 (lnAt (rowsL ms) (min (i + 1) (cntL ms))) [] (remAt (rowsL ms) (min (i + 1) (cntL ms)))
  refine asgX (x := "came") (cx0 := [("lexer", .imm (.ref L.x)), ("count", .imm (.int (cntL ms : Nat)))]) (W := Wf 0) (W' := Wf (List.range (cntL ms + 1)).length) (d := .list ((List.range (cntL ms + 1)).map fun i => .str (if i < cntL ms then S (rowAt (rowsL ms) i).word else ""))) w1 F rm (by walk_at "sub")
    (EvX.map (List.range (cntL ms + 1)) (fun (i : Nat) => .int (0 + i)) (fun i => .str (if i < cntL ms then S (rowAt (rowsL ms) i).word else "")) Wf (fun i => [("k", .imm (.int (0 + (i : Nat))))]) [("lexer", .imm (.ref L.x))]
      (EvIX.pure (EvI.range1 (k := cntL ms + 1) (b := ((cntL ms : Nat) : Int) + 1) (nm_bi T.toTx (by kernel_rfl) (by kernel_rfl) (by decide)) (Ev.bin (Ev.name (x := "count") (by walk_at "sub")) Ev.int op_add) (.inl (by lia)) (by lia) (by lia))) (by kernel_rfl) (by walk_at "sub") (fun q hq => by rcases List.mem_singleton.mp hq with rfl; exact ⟨_, rfl⟩) (fun i _ => Tgt.name (by kernel_rfl)) (fun i j hj => ?_) (by simp [sizeLine]; lia))
    (cx' := cx6 ms L) (fun q hq => hq) (by kernel_rfl) (hw := fun line env h => (swaps_eq h).trans (congrArg _ (by kernel_rfl))) fun s N X2 w2 a2 l2 F => ?_
  · have hji : j = i := by
      have := (List.getElem?_eq_some_iff.mp hj).2
      rw [List.getElem_range] at this; exact this.symm
    have hic : i < cntL ms + 1 := by simpa using (List.getElem?_eq_some_iff.mp hj).1
    subst hji
    simp only [List.cons_append, List.nil_append]
    cases j with
    | zero =>
      rw [if_pos (by lia)]
      show EvX G 10 _ _ (WL P L 0 (lnAt (rowsL ms) 1) [S (rowAt (rowsL ms) 0).word] (remAt (rowsL ms) 1)) _ (WL P L 0 (lnAt (rowsL ms) (min (0 + 1) (cntL ms))) [] (remAt (rowsL ms) (min (0 + 1) (cntL ms)))) _
      rw [show min (0 + 1) (cntL ms) = 1 by lia]
      exact EvX.meth0 (Ev.name (x := "lexer") (by walk_at "sub")) hme WL.hasI (by simp) (FnX.le (fn_token_pb T.toTx (by simp)).x (by decide))
    | succ j =>
      show EvX G 10 _ _ (WL P L 0 (lnAt (rowsL ms) (min (j + 1) (cntL ms))) [] (remAt (rowsL ms) (min (j + 1) (cntL ms)))) _ (WL P L 0 (lnAt (rowsL ms) (min (j + 1 + 1) (cntL ms))) [] (remAt (rowsL ms) (min (j + 1 + 1) (cntL ms)))) _
      rw [show min (j + 1) (cntL ms) = j + 1 by lia]
      by_cases hlt : j + 1 < cntL ms
      · rw [if_pos hlt, show min (j + 1 + 1) (cntL ms) = j + 1 + 1 by lia]
        exact EvX.meth0 (Ev.name (x := "lexer") (by walk_at "sub")) hme WL.hasI (by simp) (FnX.le (fn_tokAt T.toTx (rs := rowsL ms) (i := j + 1) (by lia) hle (by lia)).x (by decide))
      · have he : j + 1 = (rowsL ms).length := by lia
        rw [if_neg hlt, show min (j + 1 + 1) (cntL ms) = j + 1 by lia]
        have hr : remAt (rowsL ms) (j + 1) = [] := by rw [he]; exact rem_end (rows_ne ms)
        rw [hr]
        exact EvX.meth0 (Ev.name (x := "lexer") (by walk_at "sub")) hme WL.hasI (by simp) (FnX.le (fn_tokEnd T.toTx).x (by decide))
  · have hwf : Wf (List.range (cntL ms + 1)).length = WL P L 0 (lnAll 1 (textL (rowsL ms))) [] [] := by
      rw [List.length_range]
      show WL P L 0 (lnAt (rowsL ms) (min (cntL ms + 1) (cntL ms))) [] (remAt (rowsL ms) (min (cntL ms + 1) (cntL ms))) = _
      rw [show min (cntL ms + 1) (cntL ms) = (rowsL ms).length by lia, rem_end (rows_ne ms)]
      have := ln_text (rs := rowsL ms) (rowsL ms).length (Nat.le_refl _)
      rw [rem_end (rows_ne ms)] at this
      rw [← this]; rfl
    rw [hwf] at w2
    have hcame : ((List.range (cntL ms + 1)).map fun i => D.str (if i < cntL ms then S (rowAt (rowsL ms) i).word else "")) = (cameL ms).map .str := by
      unfold cameL
      rw [List.range_succ, List.map_append, List.map_append, List.map_map]
      congr 1
      · unfold rowsL
        rw [List.map_map]
        apply List.map_congr_left
        intro i hi
        have hi' : i < cntL ms := by simpa using hi
        rw [if_pos hi']
        have : rowAt ((List.range (cntL ms)).map fun k => (numL ms k, 97 + k)) i = (numL ms i, 97 + i) := by
          unfold rowAt
          rw [List.getD_eq_getElem?_getD, List.getElem?_map, List.getElem?_range hi']; rfl
        rw [this]; rfl
      · simp
    rw [hcame] at F
    exact k s N _ X2 w2 (all_trans a1 a2) (l1.trans l2) F
end
end Mine
end
section
set_option tactic.hygienic false
open PySem PySem.W PyProof.Rows
namespace Mine
noncomputable def sgnL (ms : List Int) : List (List Nat) := (rowsL ms).map Row.word ++ [[]]
theorem came_sgn (ms : List Int) : cameL ms = (sgnL ms).map S := by
  unfold cameL sgnL
  rw [List.map_append, List.map_map]; rfl
theorem sgn_len (ms : List Int) : (sgnL ms).length = cntL ms + 1 := by simp [sgnL, rowsL_len]
theorem sgn_small (ms : List Int) : ∀ l ∈ sgnL ms, l.length ≤ 5 ∧ ∀ c ∈ l, c < 128 := fun l hl => by
  rcases List.mem_append.mp hl with h | h
  · obtain ⟨r, hr, rfl⟩ := List.mem_map.mp h
    have h1 := leadL_small r.1
    refine ⟨by simp [Row.word]; lia, fun c hc => ?_⟩
    rcases List.mem_append.mp hc with hc | hc
    · rcases (leadOk r.1).sg c hc with rfl | rfl <;> decide
    · rcases List.mem_singleton.mp hc with rfl
      rcases rows_let ms r hr with h | h | h | h <;> rw [h] <;> decide
  · rcases List.mem_singleton.mp h with rfl
    exact ⟨by simp, fun c hc => nomatch hc⟩
noncomputable def linesD (ms : List Int) : D := .list ((sgnL ms).map fun l => .list (intsD l))
theorem S_ok {l : List Nat} (h : ∀ c ∈ l, c < 128) : PyData.strOk (S l) = true := by
  unfold PyData.strOk
  rw [← Array.all_toList, S_cps, List.all_eq_true]
  intro c hc
  have := h c hc
  simp; lia
theorem lexG_lt : ∀ (xs ys : List Nat), lexG (fun a b : Int => decide (a < b)) true false (xs.map fun (k : Nat) => (k : Int)) (ys.map fun (k : Nat) => (k : Int)) = decide (xs < ys)
  | [], [] => by simp [lexG]
  | [], _ :: _ => by simp [lexG]
  | _ :: _, [] => by simp [lexG]
  | x :: xs, y :: ys => by
    rw [List.map_cons, List.map_cons]
    unfold lexG
    have ih := lexG_lt xs ys
    by_cases h : x = y
    · subst h
      rw [if_pos rfl, ih]
      congr 1
      simp [List.cons_lt_cons_iff]
    · rw [if_neg (by lia)]
      have e : (x :: xs < y :: ys) ↔ x < y := by simp [List.cons_lt_cons_iff, h]
      by_cases h2 : x < y
      · rw [decide_eq_true (show (x : Int) < y by lia), decide_eq_true (e.mpr h2)]
      · rw [decide_eq_false (show ¬ (x : Int) < y by lia), decide_eq_false (fun q => h2 (e.mp q))]
theorem lexG_gt : ∀ (xs ys : List Nat), lexG (fun a b : Int => decide (b < a)) false true (xs.map fun (k : Nat) => (k : Int)) (ys.map fun (k : Nat) => (k : Int)) = decide (ys < xs)
  | [], [] => by simp [lexG]
  | [], _ :: _ => by simp [lexG]
  | _ :: _, [] => by simp [lexG]
  | x :: xs, y :: ys => by
    rw [List.map_cons, List.map_cons]
    unfold lexG
    have ih := lexG_gt xs ys
    by_cases h : x = y
    · subst h
      rw [if_pos rfl, ih]
      congr 1
      simp [List.cons_lt_cons_iff]
    · rw [if_neg (by lia)]
      have e : (y :: ys < x :: xs) ↔ y < x := by simp [List.cons_lt_cons_iff, Ne.symm h]
      by_cases h2 : y < x
      · rw [decide_eq_true (show (y : Int) < x by lia), decide_eq_true (e.mpr h2)]
      · rw [decide_eq_false (show ¬ (y : Int) < x by lia), decide_eq_false (fun q => h2 (e.mp q))]
theorem intsD_int (l : List Nat) : intsD l = (l.map fun (k : Nat) => (k : Int)).map .int := by unfold intsD; rw [List.map_map]; rfl
theorem cmpS_S (a b : List Nat) : cmpS (S a) (S b) = b2i (decide (b < a)) - b2i (decide (a < b)) := by unfold cmpS; rw [S_cps, S_cps]
section
variable {G : Gs} {P : Params} {n : Nat} {A : Around} {env : Env} {s s₀ : Shared} {N N₀ : Lg} {Y : Xs}
set_option maxRecDepth 10000
theorem law_walk3 (T : Tl G P) {ms : List Int} {L : Lexer} {N₁ : Lg} {X : Xs} (rm : Rm A 10) (w : WX (WL P L 0 (lnAll 1 (textL (rowsL ms))) [] []) N₁ X Y) (F : Fs G (sc194 P) (ownNames (sc194 P)) ⟨X ++ Y, s₀, N₁⟩ (("came", .imm (.list ((cameL ms).map .str))) :: cx6 ms L) env s N) {Q : Flow → Shared → Prop} {E : Value → Shared → Prop}
    (k : ∀ s N, Fs G (sc194 P) (ownNames (sc194 P)) ⟨X ++ Y, s₀, N₁⟩ (("lines", .imm (linesD ms)) :: ("came", .imm (.list ((cameL ms).map .str))) :: cx6 ms L) env s N → Wp G A (execs ((bodyOf (fdP P 194)).drop 11) env) Q E s) :
    Wp G A (execs ((bodyOf (fdP P 194)).drop 8) env) Q E s := by
  have hc := cnt_le ms
  have hsl := sgn_len ms
  replace F : Fs G (sc194 P) (ownNames (sc194 P)) ⟨X ++ Y, s₀, N₁⟩ [("came", .imm (.list ((cameL ms).map .str))), ("lexer", .imm (.ref L.x)), ("text", .imm (.str (S (textL (rowsL ms))))), ("words", .imm (.list ((rowsL ms).map fun r => .str (S r.word)))), ("kept", .imm (.list ((keptL ms).map .bool))), ("numbers", .imm (.list ((numsL ms).map .int))), ("count", .imm (.int (cntL ms : Nat))), ("script", .imm (.list (ms.map .int)))] env s N := F
  have hcm : (D.list ((cameL ms).map .str)) = .list ((sgnL ms).map fun l => .str (S l)) := by rw [came_sgn, List.map_map]; rfl
  refine asg (x := "lines") F rm (EvM.ev (EvM.map (sgnL ms) (fun l => .str (S l)) (fun l => .list (intsD l)) (fun l => [("word", .imm (.str (S l)))]) [] (EvI.list (Ev.name (x := "came") (by rw [← hcm]; walk_at "sub"))) (by kernel_rfl) (fun q h => nomatch h) (fun l _ => Tgt.name (by kernel_rfl)) (fun l hl => ?_) (by rw [hsl]; simp only [sizeLine]; lia))) (by kernel_rfl) (hw := fun line env h => (swaps_eq h).trans (congrArg _ (by kernel_rfl))) fun s N F => ?_
  · simp only [List.cons_append, List.nil_append]
    obtain ⟨h5, hasc⟩ := sgn_small ms l hl
    refine EvM.ev (EvM.eq (EvM.map l (fun c => .str (S [c])) (fun (c : Nat) => .int (c : Int)) (fun c => [("sign", .imm (.str (S [c])))]) [] (by rw [← signs_S]; exact EvI.str (Ev.name (x := "word") (by walk_at "sub")) (by rw [← Array.all_toList, S_cps]; simpa using hasc)) (by kernel_rfl) (fun q h => nomatch h) (fun c _ => Tgt.name (by kernel_rfl)) (fun c _ => ?_) (by simp only [sizeLine]; lia)) rfl)
    simp only [List.cons_append, List.nil_append]
    exact Ev.callB (nm_bi T.toTx (by kernel_rfl) (by kernel_rfl) (by decide)) (EvL.cons (Ev.name (x := "sign") (d := .str (S [c])) (by walk_at "sub")) .nil) fn_ord
  replace F : Fs G (sc194 P) (ownNames (sc194 P)) ⟨X ++ Y, s₀, N₁⟩ [("lines", .imm (linesD ms)), ("came", .imm (.list ((cameL ms).map .str))), ("lexer", .imm (.ref L.x)), ("text", .imm (.str (S (textL (rowsL ms))))), ("words", .imm (.list ((rowsL ms).map fun r => .str (S r.word)))), ("kept", .imm (.list ((keptL ms).map .bool))), ("numbers", .imm (.list ((numsL ms).map .int))), ("count", .imm (.int (cntL ms : Nat))), ("script", .imm (.list (ms.map .int)))] env s N := F
  have hokc : ∀ d ∈ (cameL ms).map D.str, kqdOk 8 d.dat = true := fun d hd => by
    rw [came_sgn, List.map_map] at hd
    obtain ⟨l, hl, rfl⟩ := List.mem_map.mp hd
    exact str_dat_ok (S_ok (sgn_small ms l hl).2) 8
  have hcw : (cameL ms).map D.str = ((rowsL ms).map fun r => D.str (S r.word)) ++ [.str ""] := by unfold cameL; rw [List.map_append, List.map_map]; rfl
  have hokw : ∀ d ∈ ((rowsL ms).map fun r => D.str (S r.word)) ++ [.str ""], kqdOk 8 d.dat = true := hcw ▸ hokc
  have hln : ((lnAll 1 (textL (rowsL ms)) : Nat) : Int) = 1 + Txt.count (S (textL (rowsL ms))) "\n" := by
    rw [nl_is, count_S, lnAll_count]; push_cast; rfl
  have htl := text_len (rowsL ms) (rows_ne ms)
  have hrl := rowsL_len ms
  refine ifX (cx0 := [("came", .imm (.list ((cameL ms).map .str))), ("lexer", .imm (.ref L.x)), ("text", .imm (.str (S (textL (rowsL ms))))), ("words", .imm (.list ((rowsL ms).map fun r => .str (S r.word))))]) (b := false || false) w F rm (by walk_at "sub")
    (EvTX.or2 (EvTX.pure (EvT.cmp (Ev.name (x := "came") (by walk_at "sub")) (EvM.ev (EvM.bin (Ev.name (x := "words") (by walk_at "sub")) (EvM.ev (EvM.disp (EvL.cons (Ev.str (x := "")) .nil) (by simp [sizeLine]))) (op_addL (by simp only [List.length_map, List.length_cons, List.length_nil, sizeLine]; lia)))) (cm_neD (D.ok_list.mpr hokc) (D.ok_list.mpr hokw) ⟨fun _ => by rw [hcw], fun _ => rfl⟩)))
      (fun _ => EvTX.cmpL (EvR.attr (Ev.name (x := "lexer") (by walk_at "sub")) (by rw [T.frag]; kernel_rfl) WL.lineno) (Ev.bin (Ev.int (i := 1)) (Ev.meth1 mt_count (Ev.name (x := "text") (by walk_at "sub")) (EvL.cons (Ev.str (x := "\n")) .nil) fn_count) op_add) (by have := cm_ne (G := G) (n := 10) (a := ((lnAll 1 (textL (rowsL ms)) : Nat) : Int)) (b := 1 + Txt.count (S (textL (rowsL ms))) "\n"); rwa [show (((lnAll 1 (textL (rowsL ms)) : Nat) : Int) != 1 + Txt.count (S (textL (rowsL ms))) "\n") = false by rw [hln]; simp] at this)))
    (fun h => nomatch h) (fun _ s N F => ?_)
  refine wnil ?_
  have hsame : (D.list ((sgnL ms).map fun a => .list ((sgnL ms).map fun b => .int (cmpS (S a) (S b))))) = .list ((sgnL ms).map fun a => .list ((sgnL ms).map fun b => .int (b2i (lexG (fun a b : Int => decide (b < a)) false true (a.map fun (k : Nat) => (k : Int)) (b.map fun (k : Nat) => (k : Int))) - b2i (lexG (fun a b : Int => decide (a < b)) true false (a.map fun (k : Nat) => (k : Int)) (b.map fun (k : Nat) => (k : Int)))))) := by
    congr 1
    apply List.map_congr_left
    intro a _
    congr 1
    apply List.map_congr_left
    intro b _
    rw [cmpS_S, lexG_gt, lexG_lt]
  have hoki : ∀ (f : List Nat → List Nat → Int), (D.list ((sgnL ms).map fun a => .list ((sgnL ms).map fun b => .int (f a b)))).ok = true := fun f => by
    rw [D.ok_list]
    intro d hd
    obtain ⟨a, _, rfl⟩ := List.mem_map.mp hd
    show (D.dats _).all (kqdOk 7) = true
    rw [List.all_eq_true]
    intro x hx
    obtain ⟨d, hd, rfl⟩ := D.dats_mem.mp hx
    obtain ⟨b, _, rfl⟩ := List.mem_map.mp hd
    rfl
  have hlines : linesD ms = .list ((sgnL ms).map fun l => .list ((l.map fun (k : Nat) => (k : Int)).map .int)) := by
    unfold linesD
    congr 1
    apply List.map_congr_left
    intro l _
    rw [intsD_int]
  refine ifX (cx0 := [("came", .imm (.list ((cameL ms).map .str))), ("lines", .imm (linesD ms))]) (b := false) w F rm (by walk_at "sub")
    (EvTX.pure (EvT.cmp
      (EvM.ev (EvM.map (sgnL ms) (fun l => .str (S l)) (fun a => .list ((sgnL ms).map fun b => .int (cmpS (S a) (S b)))) (fun l => [("one", .imm (.str (S l)))]) [("came", .imm (.list ((cameL ms).map .str)))] (EvI.list (Ev.name (x := "came") (by rw [← hcm]; walk_at "sub"))) (by kernel_rfl) (by walk_at "sub") (fun l _ => Tgt.name (by kernel_rfl)) (fun a _ => EvM.ev (EvM.map (sgnL ms) (fun l => .str (S l)) (fun b => .int (cmpS (S a) (S b))) (fun l => [("other", .imm (.str (S l)))]) [("one", .imm (.str (S a)))] (EvI.list (Ev.name (x := "came") (by rw [← hcm]; simp only [List.cons_append, List.nil_append]; walk_at "sub"))) (by kernel_rfl) (by simp only [List.cons_append, List.nil_append]; walk_at "sub") (fun l _ => Tgt.name (by kernel_rfl))
        (fun b _ => Ev.call (nm_of (by kernel_rfl) (by kernel_rfl) T.strcoll) (T.fn 28 (by decide)) (EvL.cons (Ev.name (x := "one") (d := .str (S a)) (by simp only [List.cons_append, List.nil_append]; walk_at "sub")) (EvL.cons (Ev.name (x := "other") (d := .str (S b)) (by simp only [List.cons_append, List.nil_append]; walk_at "sub")) .nil)) ((fn_strcoll T.toTx).le (by decide))) (by rw [hsl]; simp only [sizeLine]; lia))) (by rw [hsl]; simp only [sizeLine]; lia)))
      (EvM.ev (EvM.map (sgnL ms) (fun l => .list ((l.map fun (k : Nat) => (k : Int)).map .int)) (fun a => .list ((sgnL ms).map fun b => .int (b2i (lexG (fun a b : Int => decide (b < a)) false true (a.map fun (k : Nat) => (k : Int)) (b.map fun (k : Nat) => (k : Int))) - b2i (lexG (fun a b : Int => decide (a < b)) true false (a.map fun (k : Nat) => (k : Int)) (b.map fun (k : Nat) => (k : Int)))))) (fun l => [("row", .imm (.list ((l.map fun (k : Nat) => (k : Int)).map .int)))]) [("lines", .imm (linesD ms))] (EvI.list (Ev.name (x := "lines") (by rw [← hlines]; walk_at "sub"))) (by kernel_rfl) (by walk_at "sub") (fun l _ => Tgt.name (by kernel_rfl)) (fun a _ => EvM.ev (EvM.map (sgnL ms) (fun l => .list ((l.map fun (k : Nat) => (k : Int)).map .int)) (fun b => .int (b2i (lexG (fun a b : Int => decide (b < a)) false true (a.map fun (k : Nat) => (k : Int)) (b.map fun (k : Nat) => (k : Int))) - b2i (lexG (fun a b : Int => decide (a < b)) true false (a.map fun (k : Nat) => (k : Int)) (b.map fun (k : Nat) => (k : Int))))) (fun l => [("line", .imm (.list ((l.map fun (k : Nat) => (k : Int)).map .int)))]) [("row", .imm (.list ((a.map fun (k : Nat) => (k : Int)).map .int)))] (EvI.list (Ev.name (x := "lines") (by rw [← hlines]; simp only [List.cons_append, List.nil_append]; walk_at "sub"))) (by kernel_rfl) (by simp only [List.cons_append, List.nil_append]; walk_at "sub") (fun l _ => Tgt.name (by kernel_rfl))
        (fun b _ => Ev.bin (Ev.cmp (Ev.name (x := "row") (d := .list ((a.map fun (k : Nat) => (k : Int)).map .int)) (by simp only [List.cons_append, List.nil_append]; walk_at "sub")) (Ev.name (x := "line") (d := .list ((b.map fun (k : Nat) => (k : Int)).map .int)) (by simp only [List.cons_append, List.nil_append]; walk_at "sub")) cm_gtI) (Ev.cmp (Ev.name (x := "row") (d := .list ((a.map fun (k : Nat) => (k : Int)).map .int)) (by simp only [List.cons_append, List.nil_append]; walk_at "sub")) (Ev.name (x := "line") (d := .list ((b.map fun (k : Nat) => (k : Int)).map .int)) (by simp only [List.cons_append, List.nil_append]; walk_at "sub")) cm_ltI) op_subB) (by rw [hsl]; simp only [sizeLine]; lia))) (by rw [hsl]; simp only [sizeLine]; lia)))
      (cm_neD (hoki fun a b => cmpS (S a) (S b)) (hoki _) ⟨fun _ => by rw [hsame], fun _ => rfl⟩)))
    (fun h => nomatch h) (fun _ s N F => ?_)
  refine wnil ?_
  exact k s N F
end
end Mine
end
section
set_option tactic.hygienic false
open PySem PySem.W PyProof.Rows
namespace Mine
noncomputable def leadW (ms : List Int) (k : Nat) : List Nat := (rowAt (rowsL ms) k).word ++ List.replicate (3 * (cntL ms - k)) 32
noncomputable def leadsD (ms : List Int) : D := .list ((List.range (cntL ms)).map fun k => wsD (S (leadW ms k)))
theorem mul_blanks {j : Nat} (h : j ≤ 4) : Txt.mul (Txt.mul " " 3) ((j : Nat) : Int) = S (List.replicate (3 * j) 32) := by
  rcases (show j = 0 ∨ j = 1 ∨ j = 2 ∨ j = 3 ∨ j = 4 by lia) with rfl | rfl | rfl | rfl | rfl <;> decide +kernel
theorem mul_ok1 : MulOk " " 3 := ⟨by decide +kernel, by decide +kernel, by decide +kernel⟩
theorem mul_ok2 {j : Nat} (h : j ≤ 4) : MulOk (Txt.mul " " 3) ((j : Nat) : Int) := by
  rcases (show j = 0 ∨ j = 1 ∨ j = 2 ∨ j = 3 ∨ j = 4 by lia) with rfl | rfl | rfl | rfl | rfl <;> exact ⟨by decide +kernel, by decide +kernel, by decide +kernel⟩
theorem came_get (ms : List Int) {k : Nat} (h : k < cntL ms) : ((cameL ms).map D.str)[k]? = some (.str (S (rowAt (rowsL ms) k).word)) := by
  unfold cameL rowAt
  have hl := rowsL_len ms
  rw [List.getElem?_map, List.getElem?_append_left (by rw [List.length_map]; lia), List.getElem?_map, List.getD_eq_getElem?_getD, List.getElem?_eq_getElem (by lia : k < (rowsL ms).length)]
  rfl
theorem word_small (ms : List Int) {k : Nat} (h : k < cntL ms) : (rowAt (rowsL ms) k).word.length ≤ 5 ∧ ∀ c ∈ (rowAt (rowsL ms) k).word, c < 128 := by
  refine sgn_small ms _ (List.mem_append_left _ (List.mem_map.mpr ⟨_, ?_, rfl⟩))
  have hl := rowsL_len ms
  unfold rowAt
  rw [List.getD_eq_getElem?_getD, List.getElem?_eq_getElem (by lia : k < (rowsL ms).length)]
  exact List.getElem_mem _
section
variable {G : Gs} {P : Params} {n : Nat} {A : Around} {env : Env} {s s₀ : Shared} {N N₀ : Lg} {Y : Xs}
set_option maxRecDepth 10000
theorem ev_lead (T : Tl G P) {ms : List Int} {k : Nat} (hk : k < cntL ms) {sc : Scope} {cx : Cx} {p1 p2 p3 p4 p5 p6 p7 p8 p9 p10 p11 p12 p13 : Pos} {kk1 kk2 : Nat} (hW : Nm G sc "Whitespace" (.ref 139))
    (c1 : (("came" : Str), Ent.imm (.list ((cameL ms).map .str))) ∈ cx) (c2 : (("count" : Str), Ent.imm (.int (cntL ms : Nat))) ∈ cx) (c3 : (("k" : Str), Ent.imm (.int (k : Nat))) ∈ cx) :
    Ev G 10 sc cx (.Call (.Name "Whitespace" p1) [.BinOp (.Subscript (.Name "came" p2) (.Name "k" p3) p4) .Add (.BinOp (.BinOp (.Constant (.str " ") kk1 p5) .Mult (.Constant (.int 3) kk2 p6) p7) .Mult (.BinOp (.Name "count" p8) .Sub (.Name "k" p9) p10) p11) p12] [] p13) (wsD (S (leadW ms k))) := by
  have hc := cnt_le ms
  obtain ⟨h5, hasc⟩ := word_small ms hk
  have hll : (leadW ms k).length ≤ 20 := by unfold leadW; simp only [List.length_append, List.length_replicate]; lia
  have hsub : ((cntL ms : Nat) : Int) - ((k : Nat) : Int) = ((cntL ms - k : Nat) : Int) := by lia
  refine Ev.new hW (by rw [T.frag]; kernel_rfl) (EvL.cons (Ev.eq (Ev.bin (Ev.item (Ev.name (x := "came") c1) (Ev.name (x := "k") c3) (it_list (k := (k : Int)) (by lia) (by rw [Int.toNat_natCast]; exact came_get ms hk) (by lia))) (Ev.bin (Ev.bin (Ev.str (x := " ")) (Ev.int (i := 3)) (op_mulS ?_)) (Ev.eq (Ev.bin (Ev.name (x := "count") c2) (Ev.name (x := "k") c3) op_sub) (congrArg D.int hsub)) (op_mulS ?_)) (op_addS ?_)) (d' := .str (S (leadW ms k))) ?_) .nil) ((fn_ws T.toTx (by rw [S_len]; lia) ?_).le (by decide))
  · exact mul_ok1
  · exact mul_ok2 (by lia)
  · rw [mul_blanks (by lia), S_len, S_len, List.length_replicate]; simp only [sizeLine]; lia
  · rw [mul_blanks (by lia), S_app]; rfl
  · rw [← Array.all_toList, S_cps, List.all_eq_true]
    intro c hc'
    rcases List.mem_append.mp hc' with hc' | hc'
    · simpa using hasc c hc'
    · rw [List.eq_of_mem_replicate hc']; rfl
noncomputable def wsAt (ms : List Int) (k : Nat) : Ws := wsRun (leadW ms k) ws0
noncomputable def belowL (ms : List Int) : List (List Nat) := (List.range (cntL ms)).map fun k => (List.range (cntL ms)).filter fun m => wsLess (wsAt ms m) (wsAt ms k)
theorem wsRun_small : ∀ (l : List Nat) (w : Ws), (wsRun l w).count.length ≤ max w.count.length (w.b + l.length + 1) ∧ (wsRun l w).b ≤ w.b + l.length
  | [], w => by
    show w.count.length ≤ _ ∧ w.b ≤ _
    lia
  | c :: r, w => by
    unfold wsRun
    split
    · have := wsRun_small r w.blank
      have e1 : w.blank.count = w.count := rfl
      have e2 : w.blank.b = w.b + 1 := rfl
      rw [e1, e2] at this
      simp only [List.length_cons]; lia
    · split
      · have := wsRun_small r w.tab
        have e1 : w.tab.count.length = max w.count.length (w.b + 1) := by
          show (w.pad.set w.b _).length = _
          rw [List.length_set, Ws.pad_len]
        have e2 : w.tab.b = 0 := rfl
        rw [e1, e2] at this
        simp only [List.length_cons]; lia
      · simp only [List.length_cons]; lia
theorem wsAt_small (ms : List Int) {k : Nat} (hk : k < cntL ms) : (wsAt ms k).small := by
  have hc := cnt_le ms
  obtain ⟨h5, _⟩ := word_small ms hk
  have hll : (leadW ms k).length ≤ 20 := by unfold leadW; simp only [List.length_append, List.length_replicate]; lia
  have := wsRun_small (leadW ms k) ws0
  have e1 : ws0.count.length = 0 := rfl
  have e2 : ws0.b = 0 := rfl
  rw [e1, e2] at this
  unfold Ws.small wsAt
  lia
theorem lead_get (ms : List Int) {k : Nat} (h : k < cntL ms) : ((List.range (cntL ms)).map fun k => wsD (S (leadW ms k)))[k]? = some (wsO (wsAt ms k) (S (leadW ms k))) := by
  rw [List.getElem?_map, List.getElem?_range h]
  show some (wsD (S (leadW ms k))) = _
  rw [wsD_eq, S_cps]; rfl
noncomputable def cx11 (ms : List Int) (L : Lexer) : Cx := ("lines", .imm (linesD ms)) :: ("came", .imm (.list ((cameL ms).map .str))) :: cx6 ms L
theorem law_walk4 (T : Tl G P) {ms : List Int} {L : Lexer} {B : Bse} (rm : Rm A 10) (F : Fs G (sc194 P) (ownNames (sc194 P)) B (cx11 ms L) env s N) {Q : Flow → Shared → Prop} {E : Value → Shared → Prop}
    (k : ∀ s N, Fs G (sc194 P) (ownNames (sc194 P)) B (("below", .imm (nestD (belowL ms))) :: ("leads", .imm (leadsD ms)) :: cx11 ms L) env s N → Wp G A (execs ((bodyOf (fdP P 194)).drop 13) env) Q E s) :
    Wp G A (execs ((bodyOf (fdP P 194)).drop 11) env) Q E s := by
  have hc := cnt_le ms
  replace F : Fs G (sc194 P) (ownNames (sc194 P)) B [("lines", .imm (linesD ms)), ("came", .imm (.list ((cameL ms).map .str))), ("lexer", .imm (.ref L.x)), ("text", .imm (.str (S (textL (rowsL ms))))), ("words", .imm (.list ((rowsL ms).map fun r => .str (S r.word)))), ("kept", .imm (.list ((keptL ms).map .bool))), ("numbers", .imm (.list ((numsL ms).map .int))), ("count", .imm (.int (cntL ms : Nat))), ("script", .imm (.list (ms.map .int)))] env s N := F
  refine asg (x := "leads") F rm (EvM.ev (EvM.map (List.range (cntL ms)) (fun (k : Nat) => .int (0 + (k : Int))) (fun k => wsD (S (leadW ms k))) (fun k => [("k", .imm (.int (0 + (k : Int))))]) [("came", .imm (.list ((cameL ms).map .str))), ("count", .imm (.int (cntL ms : Nat)))]
    (EvI.range1 (k := cntL ms) (b := (cntL ms : Nat)) (nm_bi T.toTx (by kernel_rfl) (by kernel_rfl) (by decide)) (Ev.name (x := "count") (by walk_at "sub")) (.inl rfl) (by lia) (by lia)) (by kernel_rfl) (by walk_at "sub") (fun k _ => Tgt.name (by kernel_rfl)) (fun k hk => ?_) (by simp only [List.length_range, sizeLine]; lia))) (by kernel_rfl) (hw := fun line env h => (swaps_eq h).trans (congrArg _ (by kernel_rfl))) fun s N F => ?_
  · have hkc : k < cntL ms := by simpa using hk
    have e0 : (0 : Int) + (k : Int) = ((k : Nat) : Int) := by lia
    rw [e0]
    simp only [List.cons_append, List.nil_append]
    exact ev_lead T hkc (nm_of (by kernel_rfl) (by kernel_rfl) T.Whitespace) (by walk_at "sub") (by walk_at "sub") (by walk_at "sub")
  have hws : ∀ k, wsD (S (leadW ms k)) = wsO (wsAt ms k) (S (leadW ms k)) := fun k => by rw [wsD_eq, S_cps]; rfl
  refine asgC (x := "below") (List.range (cntL ms)) (fun k => wsD (S (leadW ms k))) (fun _ => true) (fun k => .list (intsD ((List.range (cntL ms)).filter fun m => wsLess (wsAt ms m) (wsAt ms k)))) (fun k => [("lead", .imm (wsD (S (leadW ms k))))]) [("count", .imm (.int (cntL ms : Nat))), ("leads", .imm (leadsD ms))] F rm (by kernel_rfl) (by kernel_rfl)
    (EvI.list (Ev.name (x := "leads") (d := leadsD ms) (by unfold leadsD; walk_at "sub"))) (by kernel_rfl) (by unfold leadsD; walk_at "sub") (fun k _ => Tgt.name (by kernel_rfl)) (fun k _ => EvTs.nil) (fun k hk _ => ?_) (by simp only [List.length_range, sizeLine]; lia) fun s N F => ?_
  · have hkc : k < cntL ms := by simpa using hk
    simp only [List.cons_append, List.nil_append]
    refine EvM.ev (EvM.eq (EvM.filt (List.range (cntL ms)) (fun (m : Nat) => .int (0 + (m : Int))) (fun m => wsLess (wsAt ms m) (wsAt ms k)) (fun m => .int (0 + (m : Int))) (fun m => [("m", .imm (.int (0 + (m : Int))))]) [("lead", .imm (wsD (S (leadW ms k)))), ("leads", .imm (leadsD ms))]
      (EvI.range1 (k := cntL ms) (b := (cntL ms : Nat)) (nm_bi T.toTx (by kernel_rfl) (by kernel_rfl) (by decide)) (Ev.name (x := "count") (by walk_at "sub")) (.inl rfl) (by lia) (by lia)) (by kernel_rfl) (by walk_at "sub") (fun m _ => Tgt.name (by kernel_rfl)) (fun m hm => ?_) (fun m hm _ => ?_) (by simp only [List.length_range, sizeLine]; lia)) ?_)
    · have hmc : m < cntL ms := by simpa using hm
      have e0 : (0 : Int) + (m : Int) = ((m : Nat) : Int) := by lia
      rw [e0]
      simp only [List.cons_append, List.nil_append]
      refine EvTs.one (EvT.cmp (Ev.methI (Ev.item (Ev.name (x := "leads") (d := leadsD ms) (by walk_at "sub")) (Ev.name (x := "m") (by walk_at "sub")) (it_list (by lia) (by rw [Int.toNat_natCast]; exact lead_get ms hmc) (by lia))) (by rw [T.frag]; kernel_rfl) (by kernel_rfl) (EvL.cons (Ev.name (x := "lead") (d := wsO (wsAt ms k) (S (leadW ms k))) (by rw [← hws]; walk_at "sub")) .nil) ((fn_less T.toTx (wsAt_small ms hmc) (wsAt_small ms hkc)).le (by decide))) (Ev.bool (b := true)) cm_isTrue)
    · simp only [List.cons_append, List.nil_append]
      exact Ev.name (x := "m") (by walk_at "sub")
    · unfold intsD
      apply List.map_congr_left
      intro m _
      congr 1; lia
  have hb : ((List.range (cntL ms)).filter (fun _ => true)).map (fun k => D.list (intsD ((List.range (cntL ms)).filter fun m => wsLess (wsAt ms m) (wsAt ms k)))) = (belowL ms).map fun r => .list (intsD r) := by
    rw [List.filter_eq_self.mpr fun _ _ => rfl]
    unfold belowL
    rw [List.map_map]; rfl
  rw [hb] at F
  obtain ⟨N', F⟩ := F.frz (by kernel_rfl)
  exact k s N' F
end
end Mine
end
section
set_option tactic.hygienic false
open PySem PySem.W PyProof.Rows
namespace Mine
noncomputable def colsR (r : Row) : List Nat := colsOf r.l
noncomputable def colsD (ms : List Int) : D := .list ((rowsL ms).map fun r => .list (intsD (colsR r)))
noncomputable def leftOf (m r : Row) : Bool := ((List.range 5).filter fun j => decide ((colsR r).getD j 0 ≤ (colsR m).getD j 0)).isEmpty
noncomputable def ownL (ms : List Int) : List (List Nat) := (rowsL ms).map fun r => (List.range (cntL ms)).filter fun m => leftOf (rowAt (rowsL ms) m) r
theorem cols_len (r : Row) : (colsR r).length = 5 := by simp [colsR, colsOf]
theorem cols_get (ms : List Int) {k : Nat} (h : k < cntL ms) : ((rowsL ms).map fun r => D.list (intsD (colsR r)))[k]? = some (.list (intsD (colsR (rowAt (rowsL ms) k)))) := by
  have hl := rowsL_len ms
  unfold rowAt
  rw [List.getElem?_map, List.getD_eq_getElem?_getD, List.getElem?_eq_getElem (by lia : k < (rowsL ms).length)]
  rfl
noncomputable def cx13 (ms : List Int) (L : Lexer) : Cx := ("below", .imm (nestD (belowL ms))) :: ("leads", .imm (leadsD ms)) :: cx11 ms L
section
variable {G : Gs} {P : Params} {n : Nat} {A : Around} {env : Env} {s s₀ : Shared} {N N₀ : Lg} {Y : Xs}
set_option maxRecDepth 10000
theorem law_walk5 (T : Tl G P) {ms : List Int} {L : Lexer} {B : Bse} (rm : Rm A 10) (F : Fs G (sc194 P) (ownNames (sc194 P)) B (cx13 ms L) env s N) {Q : Flow → Shared → Prop} {E : Value → Shared → Prop}
    (k : ∀ s N, Fs G (sc194 P) (ownNames (sc194 P)) B (("own", .imm (nestD (ownL ms))) :: ("columns", .imm (colsD ms)) :: cx13 ms L) env s N → Wp G A (execs ((bodyOf (fdP P 194)).drop 15) env) Q E s) :
    Wp G A (execs ((bodyOf (fdP P 194)).drop 13) env) Q E s := by
  have hc := cnt_le ms
  have hrl := rowsL_len ms
  replace F : Fs G (sc194 P) (ownNames (sc194 P)) B [("below", .imm (nestD (belowL ms))), ("leads", .imm (leadsD ms)), ("lines", .imm (linesD ms)), ("came", .imm (.list ((cameL ms).map .str))), ("lexer", .imm (.ref L.x)), ("text", .imm (.str (S (textL (rowsL ms))))), ("words", .imm (.list ((rowsL ms).map fun r => .str (S r.word)))), ("kept", .imm (.list ((keptL ms).map .bool))), ("numbers", .imm (.list ((numsL ms).map .int))), ("count", .imm (.int (cntL ms : Nat))), ("script", .imm (.list (ms.map .int)))] env s N := F
  refine asg (x := "columns") F rm (EvM.ev (EvM.map (rowsL ms) (fun r => .str (S r.word)) (fun r => .list (intsD (colsR r))) (fun r => [("word", .imm (.str (S r.word)))]) [] (EvI.list (Ev.name (x := "words") (by walk_at "sub"))) (by kernel_rfl) (fun q h => nomatch h) (fun r _ => Tgt.name (by kernel_rfl)) (fun r _ => ?_) (by rw [hrl]; simp only [sizeLine]; lia))) (by kernel_rfl) (hw := fun line env h => (swaps_eq h).trans (congrArg _ (by kernel_rfl))) fun s N F => ?_
  · simp only [List.cons_append, List.nil_append]
    exact Ev.call (nm_of (by kernel_rfl) (by kernel_rfl) T.columns) (T.fn 167 (by decide)) (EvL.cons (Ev.name (x := "word") (d := .str (S r.word)) (by walk_at "sub")) .nil) ((fn_columns (l := leadL r.1) (c := r.2) T.toTx (leadOk r.1)).le (by decide))
  have hcd : colsD ms = .list ((rowsL ms).map fun r => .list (intsD (colsR r))) := rfl
  refine asg (x := "own") F rm (EvM.ev (EvM.eq (EvM.map (rowsL ms) (fun r => .list (intsD (colsR r))) (fun r => .list (intsD ((List.range (cntL ms)).filter fun m => leftOf (rowAt (rowsL ms) m) r))) (fun r => [("above", .imm (.list (intsD (colsR r))))]) [("count", .imm (.int (cntL ms : Nat))), ("columns", .imm (colsD ms))]
    (EvI.list (Ev.name (x := "columns") (d := .list ((rowsL ms).map fun r => .list (intsD (colsR r)))) (by walk_at "sub"))) (by kernel_rfl) (by rw [hcd]; walk_at "sub") (fun r _ => Tgt.name (by kernel_rfl)) (fun r _ => ?_) (by rw [hrl]; simp only [sizeLine]; lia)) (d' := (ownL ms).map fun r => .list (intsD r)) (by unfold ownL; rw [List.map_map]; rfl))) (by kernel_rfl) (hw := fun line env h => (swaps_eq h).trans (congrArg _ (by kernel_rfl))) fun s N F => ?_
  · simp only [List.cons_append, List.nil_append]
    refine EvM.ev (EvM.eq (EvM.filt (List.range (cntL ms)) (fun (m : Nat) => .int (0 + (m : Int))) (fun m => leftOf (rowAt (rowsL ms) m) r) (fun m => .int (0 + (m : Int))) (fun m => [("m", .imm (.int (0 + (m : Int))))]) [("above", .imm (.list (intsD (colsR r)))), ("columns", .imm (colsD ms))]
      (EvI.range1 (k := cntL ms) (b := (cntL ms : Nat)) (nm_bi T.toTx (by kernel_rfl) (by kernel_rfl) (by decide)) (Ev.name (x := "count") (by walk_at "sub")) (.inl rfl) (by lia) (by lia)) (by kernel_rfl) (by walk_at "sub") (fun m _ => Tgt.name (by kernel_rfl)) (fun m hm => ?_) (fun m hm _ => ?_) (by simp only [List.length_range, sizeLine]; lia)) ?_)
    · have hmc : m < cntL ms := by simpa using hm
      have e0 : (0 : Int) + (m : Int) = ((m : Nat) : Int) := by lia
      rw [e0]
      simp only [List.cons_append, List.nil_append]
      have hokl : ∀ l : List Nat, (D.list (l.map fun (j : Nat) => D.int (0 + (j : Int)))).ok = true := fun l => by
        rw [D.ok_list]
        intro d hd
        obtain ⟨j, _, rfl⟩ := List.mem_map.mp hd
        rfl
      refine EvTs.one (EvT.cmp (EvM.ev (EvM.filt (List.range 5) (fun (j : Nat) => .int (0 + (j : Int))) (fun j => decide ((colsR r).getD j 0 ≤ (colsR (rowAt (rowsL ms) m)).getD j 0)) (fun j => .int (0 + (j : Int))) (fun j => [("k", .imm (.int (0 + (j : Int))))]) [("m", .imm (.int (m : Nat))), ("above", .imm (.list (intsD (colsR r)))), ("columns", .imm (colsD ms))]
        (EvI.range1 (k := 5) (b := 5) (nm_bi T.toTx (by kernel_rfl) (by kernel_rfl) (by decide)) Ev.int (.inl rfl) (by decide) (by decide)) (by kernel_rfl) (by walk_at "sub") (fun j _ => Tgt.name (by kernel_rfl)) (fun j hj => ?_) (fun j hj _ => ?_) (by simp [sizeLine]))) (EvM.ev (EvM.disp .nil (Nat.zero_le _))) (cm_eqD (hokl _) (by rfl) ?_))
      · have hj5 : j < 5 := by simpa using hj
        have e1 : (0 : Int) + (j : Int) = ((j : Nat) : Int) := by lia
        rw [e1]
        simp only [List.cons_append, List.nil_append]
        refine EvTs.one (EvT.eq (EvT.cmp (Ev.item (Ev.item (Ev.name (x := "columns") (d := colsD ms) (by walk_at "sub")) (Ev.name (x := "m") (by walk_at "sub")) (it_list (by lia) (by rw [Int.toNat_natCast]; exact cols_get ms hmc) (by lia))) (Ev.name (x := "k") (by walk_at "sub")) (it_list (by lia) (by rw [Int.toNat_natCast]; exact intsD_get (by rw [cols_len]; exact hj5)) (by lia))) (Ev.item (Ev.name (x := "above") (by walk_at "sub")) (Ev.name (x := "k") (by walk_at "sub")) (it_list (by lia) (by rw [Int.toNat_natCast]; exact intsD_get (by rw [cols_len]; exact hj5)) (by lia))) cm_ge) ?_)
        simp
      · simp only [List.cons_append, List.nil_append]
        exact Ev.name (x := "k") (by walk_at "sub")
      · unfold leftOf
        cases hf : (List.range 5).filter fun j => decide ((colsR r).getD j 0 ≤ (colsR (rowAt (rowsL ms) m)).getD j 0) with
        | nil => simp
        | cons a l => simp [D.dat, D.dats]
    · simp only [List.cons_append, List.nil_append]
      exact Ev.name (x := "m") (by walk_at "sub")
    · unfold intsD
      apply List.map_congr_left
      intro m _
      congr 1; lia
  exact k s N F
end
end Mine
end
section
set_option tactic.hygienic false
open PySem PySem.W PyProof.Rows
namespace Mine
noncomputable def blkN (c i : Nat) : List Nat := (List.range c).map fun k => i / 3 ^ k % 3
noncomputable def okN (own : List (List Nat)) (c : Nat) (b : List Nat) : Bool := (List.range c).all fun k => decide (needN own b k ≤ b.getD k 0)
noncomputable def dueB (own : List (List Nat)) (kept : List Bool) (c : Nat) (b : List Nat) : Bool := (List.range c).all fun k => decide (underF own kept b 5 k ≤ if kept.getD k false then b.getD k 0 else 2 - b.getD k 0)
noncomputable def toldN (own : List (List Nat)) (kept : List Bool) (c : Nat) (b : List Nat) : List Nat := (List.range c).map fun k => if kept.getD k false then b.getD k 0 else b.getD k 0 - needN own b k
noncomputable def hgtN (own : List (List Nat)) (kept : List Bool) (c : Nat) (b : List Nat) (k : Nat) : Nat := b.getD k 0 + if kept.getD k false then 0 else underF own kept b 5 k
noncomputable def grownN (own : List (List Nat)) (kept : List Bool) (c : Nat) (b : List Nat) : List Nat := (List.range c).map (hgtN own kept c b)
noncomputable def okNums (own : List (List Nat)) (c i : Nat) : List (List Nat) := ((List.range i).map (blkN c)).filter (okN own c)
noncomputable def dueNums (own : List (List Nat)) (kept : List Bool) (c i : Nat) : List (List Nat) := ((List.range i).map (blkN c)).filter (dueB own kept c)
noncomputable def labsD (l : List (List Nat)) : List D := l.map labD
theorem underF_stable {own : List (List Nat)} {kept : List Bool} {b : List Nat} {c : Nat} {r : Nat → Nat} (ho : Own own c r) : ∀ (f f' k : Nat), r k < f → r k < f' → underF own kept b f k = underF own kept b f' k
  | 0, _, _, h, _ => absurd h (Nat.not_lt_zero _)
  | _ + 1, 0, _, _, h => absurd h (Nat.not_lt_zero _)
  | f + 1, f' + 1, k, h, h' => by
    unfold underF
    congr 1
    apply List.map_congr_left
    intro m hm
    have := ho.rk k m hm
    rw [underF_stable ho f f' m (by lia) (by lia)]
theorem hgt_eq {own : List (List Nat)} {kept : List Bool} {b : List Nat} {c : Nat} {r : Nat → Nat} (ho : Own own c r) (hr : ∀ k, k < c → r k ≤ 4) {k : Nat} (hk : k < c) : hgtN own kept c b k = b.getD k 0 + if kept.getD k false then 0 else maxN ((own.getD k []).map (hgtN own kept c b)) := by
  unfold hgtN
  congr 1
  split
  · rfl
  · have e : underF own kept b 5 k = maxN ((own.getD k []).map fun m => b.getD m 0 + if kept.getD m false then 0 else underF own kept b 4 m) := rfl
    rw [e]
    congr 1
    apply List.map_congr_left
    intro m hm
    have h1 := ho.rk k m hm
    have h2 := hr k hk
    rw [underF_stable (kept := kept) (b := b) ho 4 5 m (by lia) (by lia)]
theorem hgt_le {own : List (List Nat)} {kept : List Bool} {b : List Nat} {c : Nat} (hb : Small b) (hd : dueB own kept c b = true) {k : Nat} (hk : k < c) : hgtN own kept c b k ≤ 2 := by
  have h := List.all_eq_true.mp hd k (by simpa using hk)
  have h' := of_decide_eq_true h
  have h2 := hb k
  unfold hgtN
  cases hkk : kept.getD k false with
  | true => simp only [if_true]; lia
  | false =>
    rw [hkk] at h'
    simp only [Bool.false_eq_true, if_false] at h' ⊢
    lia
theorem blk_len (c i : Nat) : (blkN c i).length = c := by simp [blkN]
theorem blk_small (c i : Nat) : Small (blkN c i) := fun k => by
  unfold blkN
  rw [List.getD_eq_getElem?_getD]
  by_cases h : k < c
  · rw [List.getElem?_map, List.getElem?_range h]
    show i / 3 ^ k % 3 ≤ 2
    lia
  · rw [List.getElem?_eq_none (by simp; lia)]
    exact Nat.zero_le _
theorem okNums_succ (own : List (List Nat)) (c i : Nat) : okNums own c (i + 1) = okNums own c i ++ if okN own c (blkN c i) then [blkN c i] else [] := by
  unfold okNums
  rw [List.range_succ, List.map_append, List.filter_append]
  congr 1
  simp only [List.map_cons, List.map_nil, List.filter_cons, List.filter_nil]
theorem dueNums_succ (own : List (List Nat)) (kept : List Bool) (c i : Nat) : dueNums own kept c (i + 1) = dueNums own kept c i ++ if dueB own kept c (blkN c i) then [blkN c i] else [] := by
  unfold dueNums
  rw [List.range_succ, List.map_append, List.filter_append]
  congr 1
  simp only [List.map_cons, List.map_nil, List.filter_cons, List.filter_nil]
noncomputable def cxL (ms : List Int) (L : Lexer) : Cx := [("own", .imm (nestD (ownL ms))), ("below", .imm (nestD (belowL ms))), ("lexer", .imm (.ref L.x)), ("kept", .imm (boolsD (keptL ms))), ("count", .imm (.int (cntL ms : Nat)))]
noncomputable def cx4 (ms : List Int) (i : Nat) : Cx := [("grown", .lst (labsD ((dueNums (ownL ms) (keptL ms) (cntL ms) i).map (grownN (ownL ms) (keptL ms) (cntL ms))))), ("due", .lst (labsD (dueNums (ownL ms) (keptL ms) (cntL ms) i))), ("told", .lst (labsD ((okNums (ownL ms) (cntL ms) i).map (toldN (ownL ms) (keptL ms) (cntL ms))))), ("loose", .lst (labsD (okNums (ownL ms) (cntL ms) i)))]
section
variable {G : Gs} {P : Params} {n : Nat} {A : Around} {env : Env} {s s₀ : Shared} {N N₀ : Lg} {Y : Xs}
set_option maxRecDepth 10000
theorem law_walk6 (T : Tl G P) {ms : List Int} {L : Lexer} {B : Bse} (rm : Rm A 10) (F : Fs G (sc194 P) (ownNames (sc194 P)) B (("own", .imm (nestD (ownL ms))) :: ("columns", .imm (colsD ms)) :: cx13 ms L) env s N) {Q : Flow → Shared → Prop} {E : Value → Shared → Prop}
    (k : ∀ s N, Fs G (sc194 P) (ownNames (sc194 P)) B (cx4 ms 0 ++ cxL ms L) env s N → Wp G A (execs ((bodyOf (fdP P 194)).drop 16) env) Q E s) :
    Wp G A (execs ((bodyOf (fdP P 194)).drop 15) env) Q E s := by
  replace F : Fs G (sc194 P) (ownNames (sc194 P)) B [("own", .imm (nestD (ownL ms))), ("below", .imm (nestD (belowL ms))), ("lexer", .imm (.ref L.x)), ("kept", .imm (boolsD (keptL ms))), ("count", .imm (.int (cntL ms : Nat)))] env s N := F.sub (by unfold cx13 cx11 cx6 boolsD; walk_at "sub")
  refine asg4L (x1 := "loose") (x2 := "told") (x3 := "due") (x4 := "grown") F rm (by kernel_rfl) (by kernel_rfl) (by kernel_rfl) (by kernel_rfl) fun s N F => ?_
  exact k s N F
end
end Mine
end
section
set_option tactic.hygienic false
open PySem PySem.W PyProof.Rows
namespace Mine
theorem mul_blank1 {m : Nat} (h : m ≤ 2) : MulOk " " ((m : Nat) : Int) ∧ Txt.mul " " ((m : Nat) : Int) = blanks m := by
  rcases (show m = 0 ∨ m = 1 ∨ m = 2 by lia) with rfl | rfl | rfl <;> exact ⟨⟨by decide +kernel, by decide +kernel, by decide +kernel⟩, by decide +kernel⟩
theorem pow3 {k : Nat} (h : k ≤ 4) : (Builtin.Int.intBits (3 : Int) : Int) * ((k : Nat) : Int) ≤ 2 ^ 27 ∧ (3 : Int) ^ (((k : Nat) : Int)).toNat = ((3 ^ k : Nat) : Int) ∧ 0 < 3 ^ k ∧ 3 ^ k ≤ 81 := by
  rcases (show k = 0 ∨ k = 1 ∨ k = 2 ∨ k = 3 ∨ k = 4 by lia) with rfl | rfl | rfl | rfl | rfl <;> exact ⟨by decide +kernel, by decide, by decide, by decide⟩
section
variable {G : Gs} {P : Params} {n : Nat} {A : Around} {env : Env} {s s₀ : Shared} {N N₀ : Lg} {Y : Xs}
set_option maxRecDepth 10000
theorem ev_digit {sc : Scope} {cx : Cx} {i k : Nat} (hk : k ≤ 4) {p1 p2 p3 p4 p5 p6 p7 : Pos} {kk1 kk2 : Nat} (c1 : (("number" : Str), Ent.imm (.int (i : Nat))) ∈ cx) (c2 : (("k" : Str), Ent.imm (.int (k : Nat))) ∈ cx) :
    Ev G 10 sc cx (.BinOp (.BinOp (.Name "number" p1) .FloorDiv (.BinOp (.Constant (.int 3) kk1 p2) .Pow (.Name "k" p3) p4) p5) .Mod (.Constant (.int 3) kk2 p6) p7) (.int ((i / 3 ^ k % 3 : Nat) : Int)) := by
  obtain ⟨h1, h2, h3, h4⟩ := pow3 hk
  refine Ev.eq (Ev.bin (Ev.bin (Ev.name (x := "number") c1) (Ev.eq (Ev.bin (Ev.int (i := 3)) (Ev.name (x := "k") c2) (op_pow (by lia) h1)) (congrArg D.int h2)) (op_div (by lia) (by lia))) (Ev.int (i := 3)) (op_mod (by decide))) ?_
  rw [fdivP (by lia), fmodP (by decide)]
  congr 1
end
end Mine
end
section
set_option tactic.hygienic false
open PySem PySem.W PyProof.Rows
namespace Mine
noncomputable def loopOf (b : List Stmt) : List Stmt := match b.drop 16 with
  | .For _ _ b _ _ :: _ => b
  | _ => []
noncomputable abbrev loopP (P : Params) : List Stmt := loopOf (bodyOf (fdP P 194))
section
variable {G : Gs} {P : Params} {n : Nat} {A : Around} {env : Env} {s s₀ : Shared} {N N₀ : Lg} {Y : Xs}
set_option maxRecDepth 10000
noncomputable def cxF (l1 l2 l3 l4 : List D) : Cx := [("grown", .lst l1), ("due", .lst l2), ("told", .lst l3), ("loose", .lst l4)]
noncomputable def cxT (ms : List Int) (L : Lexer) (i : Nat) (c4 : Cx) : Cx := ("labels", .imm (labD (blkN (cntL ms) i))) :: ("blanks", .imm (.list (intsD (blkN (cntL ms) i)))) :: (c4 ++ cxL ms L)
theorem law_turn1 (T : Tl G P) {ms : List Int} {L : Lexer} {B : Bse} {i : Nat} {l1 l2 l3 l4 : List D} (rm : Rm A 10) (F : Fs G (sc194 P) (ownNames (sc194 P)) B (("number", .imm (.int (i : Nat))) :: (cxF l1 l2 l3 l4 ++ cxL ms L)) env s N) {Q : Flow → Shared → Prop} {E : Value → Shared → Prop}
    (k : ∀ s N, Fs G (sc194 P) (ownNames (sc194 P)) B (cxT ms L i (cxF l1 l2 l3 l4)) env s N → Wp G A (execs ((loopP P).drop 2) env) Q E s) :
    Wp G A (execs (loopP P) env) Q E s := by
  have hc := cnt_le ms
  replace F : Fs G (sc194 P) (ownNames (sc194 P)) B [("number", .imm (.int (i : Nat))), ("grown", .lst l1), ("due", .lst l2), ("told", .lst l3), ("loose", .lst l4), ("own", .imm (nestD (ownL ms))), ("below", .imm (nestD (belowL ms))), ("lexer", .imm (.ref L.x)), ("kept", .imm (boolsD (keptL ms))), ("count", .imm (.int (cntL ms : Nat)))] env s N := F
  refine asg (x := "blanks") F rm (EvM.ev (EvM.eq (EvM.map (List.range (cntL ms)) (fun (k : Nat) => .int (0 + (k : Int))) (fun k => .int ((i / 3 ^ k % 3 : Nat) : Int)) (fun k => [("k", .imm (.int (0 + (k : Int))))]) [("number", .imm (.int (i : Nat)))]
    (EvI.range1 (k := cntL ms) (b := (cntL ms : Nat)) (nm_bi T.toTx (by kernel_rfl) (by kernel_rfl) (by decide)) (Ev.name (x := "count") (by walk_at "sub")) (.inl rfl) (by lia) (by lia)) (by kernel_rfl) (by walk_at "sub") (fun k _ => Tgt.name (by kernel_rfl)) (fun k hk => ?_) (by simp only [List.length_range, sizeLine]; lia)) (d' := intsD (blkN (cntL ms) i)) (by unfold intsD blkN; rw [List.map_map]; rfl))) (by kernel_rfl) (hw := fun line env h => (swaps_eq h).trans (congrArg _ (by kernel_rfl))) fun s N F => ?_
  · have hkc : k < cntL ms := by simpa using hk
    have e0 : (0 : Int) + (k : Int) = ((k : Nat) : Int) := by lia
    rw [e0]
    simp only [List.cons_append, List.nil_append]
    exact ev_digit (by lia) (by walk_at "sub") (by walk_at "sub")
  refine asg (x := "labels") F rm (EvM.ev (EvM.map (blkN (cntL ms) i) (fun (m : Nat) => .int (m : Int)) (fun m => .str (blanks m)) (fun m => [("many", .imm (.int (m : Nat)))]) [] (EvI.list (Ev.name (x := "blanks") (d := .list (intsD (blkN (cntL ms) i))) (by walk_at "sub"))) (by kernel_rfl) (fun q h => nomatch h) (fun m _ => Tgt.name (by kernel_rfl)) (fun m hm => ?_) (by rw [blk_len]; simp only [sizeLine]; lia))) (by kernel_rfl) (hw := fun line env h => (swaps_eq h).trans (congrArg _ (by kernel_rfl))) fun s N F => ?_
  · obtain ⟨j, hj, rfl⟩ := List.mem_map.mp hm
    obtain ⟨h1, h2⟩ := mul_blank1 (m := i / 3 ^ j % 3) (by lia)
    simp only [List.cons_append, List.nil_append]
    rw [← h2]
    exact Ev.bin (Ev.str (x := " ")) (Ev.name (x := "many") (by walk_at "sub")) (op_mulS h1)
  exact k s N (F.sub (by unfold cxT cxL cxF labD; simp only [List.cons_append, List.nil_append]; walk_at "sub"))
end
end Mine
end
section
set_option tactic.hygienic false
open PySem PySem.W PyProof.Rows
namespace Mine
theorem own_len (ms : List Int) : (ownL ms).length = cntL ms := by simp [ownL, rowsL_len]
theorem ints_ok (l : List Nat) : (D.list (l.map fun (j : Nat) => D.int (0 + (j : Int)))).ok = true := by
  rw [D.ok_list]
  intro d hd
  obtain ⟨j, _, rfl⟩ := List.mem_map.mp hd
  rfl
theorem ints_nil {l : List Nat} {b : Bool} (h : b = true ↔ l = []) : b = true ↔ (D.list (l.map fun (j : Nat) => D.int (0 + (j : Int)))).dat = (D.list []).dat := by
  rw [h]
  cases l with
  | nil => simp
  | cons a l => simp [D.dat, D.dats]
section
variable {G : Gs} {P : Params} {n : Nat} {A : Around} {env : Env} {s s₀ : Shared} {N N₀ : Lg} {X Y : Xs}
set_option maxRecDepth 10000
theorem law_turn2 (T : Tl G P) {ms : List Int} {L : Lexer} {ln : Nat} {i : Nat} {l1 l2 l3 l4 : List D} {r : Nat → Nat} (hO : Own (ownL ms) (cntL ms) r) (hr : ∀ k, k < cntL ms → r k ≤ 4) (hbl : belowL ms = ownL ms) (rm : Rm A 10) (h1 : l1.length ≤ 1000) (h2 : l2.length ≤ 1000)
    {N₁ : Lg} (w : WX (WL P L 0 ln [] []) N₁ X Y) (F : Fs G (sc194 P) (ownNames (sc194 P)) ⟨X ++ Y, s₀, N₁⟩ (cxT ms L i (cxF l1 l2 l3 l4)) env s N) {Q : Flow → Shared → Prop} {E : Value → Shared → Prop}
    (k : ∀ s N N₂ X', WX (WL P L 0 ln [] []) N₂ X' Y → AllX X X' → Bse.Le ⟨X ++ Y, s₀, N₁⟩ ⟨X' ++ Y, s₀, N₂⟩ → Fs G (sc194 P) (ownNames (sc194 P)) ⟨X' ++ Y, s₀, N₂⟩ (cxT ms L i (cxF (l1 ++ if dueB (ownL ms) (keptL ms) (cntL ms) (blkN (cntL ms) i) then [labD (grownN (ownL ms) (keptL ms) (cntL ms) (blkN (cntL ms) i))] else []) (l2 ++ if dueB (ownL ms) (keptL ms) (cntL ms) (blkN (cntL ms) i) then [labD (blkN (cntL ms) i)] else []) l3 l4)) env s N → Wp G A (execs ((loopP P).drop 3) env) Q E s) :
    Wp G A (execs ((loopP P).drop 2) env) Q E s := by
  have hc := cnt_le ms
  have hkl := keptL_len ms
  have hol := own_len ms
  have hbk := blk_len (cntL ms) i
  have hsm := blk_small (cntL ms) i
  generalize hb : blkN (cntL ms) i = b at *
  replace F : Fs G (sc194 P) (ownNames (sc194 P)) ⟨X ++ Y, s₀, N₁⟩ [("labels", .imm (labD b)), ("blanks", .imm (.list (intsD b))), ("grown", .lst l1), ("due", .lst l2), ("told", .lst l3), ("loose", .lst l4), ("own", .imm (nestD (ownL ms))), ("below", .imm (nestD (belowL ms))), ("lexer", .imm (.ref L.x)), ("kept", .imm (boolsD (keptL ms))), ("count", .imm (.int (cntL ms : Nat)))] env s N := by
    rw [← hb]; exact F
  refine ifX (cx0 := [("blanks", .imm (.list (intsD b))), ("own", .imm (nestD (ownL ms))), ("kept", .imm (boolsD (keptL ms))), ("count", .imm (.int (cntL ms : Nat)))]) (b := dueB (ownL ms) (keptL ms) (cntL ms) b) w F rm (by walk_at "sub") (EvTX.pure (EvT.cmp
    (EvM.ev (EvM.filt (List.range (cntL ms)) (fun (k : Nat) => .int (0 + (k : Int))) (fun k => decide ((if (keptL ms).getD k false then b.getD k 0 else 2 - b.getD k 0) < underF (ownL ms) (keptL ms) b 5 k)) (fun k => .int (0 + (k : Int))) (fun k => [("k", .imm (.int (0 + (k : Int))))]) [("blanks", .imm (.list (intsD b))), ("own", .imm (nestD (ownL ms))), ("kept", .imm (boolsD (keptL ms)))]
      (EvI.range1 (k := cntL ms) (b := (cntL ms : Nat)) (nm_bi T.toTx (by kernel_rfl) (by kernel_rfl) (by decide)) (Ev.name (x := "count") (by walk_at "sub")) (.inl rfl) (by lia) (by lia)) (by kernel_rfl) (by walk_at "sub") (fun k _ => Tgt.name (by kernel_rfl)) (fun k hk => ?_) (fun k hk _ => ?_) (by simp only [List.length_range, sizeLine]; lia)))
    (EvM.ev (EvM.disp .nil (Nat.zero_le _))) (cm_eqD (ints_ok _) (by rfl) (ints_nil ?_)))) (fun hd s N F => ?_) (fun hd s N F => ?_)
  · have hkc : k < cntL ms := by simpa using hk
    have e0 : (0 : Int) + (k : Int) = ((k : Nat) : Int) := by lia
    rw [e0]
    simp only [List.cons_append, List.nil_append]
    have hb2 := hsm k
    refine EvTs.one (EvT.eq (EvT.cmp (Ev.call (nm_of (by kernel_rfl) (by kernel_rfl) T.under) (T.fn 172 (by decide)) (EvL.cons (Ev.name (x := "own") (d := nestD (ownL ms)) (by walk_at "sub")) (EvL.cons (Ev.name (x := "kept") (d := boolsD (keptL ms)) (by walk_at "sub")) (EvL.cons (Ev.name (x := "blanks") (by walk_at "sub")) (EvL.cons (Ev.name (x := "k") (by walk_at "sub")) .nil)))) ((fn_under T.toTx hO hkl hbk 5 k (by have := hr k hkc; lia) hkc).le (by decide)))
      (Ev.ite (b := (keptL ms).getD k false) (d := .int ((if (keptL ms).getD k false then b.getD k 0 else 2 - b.getD k 0 : Nat) : Int)) (EvT.val (Ev.item (Ev.name (x := "kept") (d := boolsD (keptL ms)) (by walk_at "sub")) (Ev.name (x := "k") (by walk_at "sub")) (it_list (by lia) (by rw [Int.toNat_natCast]; exact boolsD_get (by lia)) (by lia))) Tr.bool) (fun hb => ?_) (fun hb => ?_)) cm_gt) ?_)
    · rw [hb, if_pos rfl]
      exact Ev.item (Ev.name (x := "blanks") (by walk_at "sub")) (Ev.name (x := "k") (by walk_at "sub")) (it_list (by lia) (by rw [Int.toNat_natCast]; exact intsD_get (by lia)) (by lia))
    · rw [hb, if_neg (by simp)]
      have e2 : ((2 - b.getD k 0 : Nat) : Int) = 2 - ((b.getD k 0 : Nat) : Int) := by lia
      rw [e2]
      exact Ev.bin (Ev.int (i := 2)) (Ev.item (Ev.name (x := "blanks") (by walk_at "sub")) (Ev.name (x := "k") (by walk_at "sub")) (it_list (by lia) (by rw [Int.toNat_natCast]; exact intsD_get (by lia)) (by lia))) op_sub
    · simp
  · simp only [List.cons_append, List.nil_append]
    exact Ev.name (x := "k") (by walk_at "sub")
  · rw [List.filter_eq_nil_iff]
    unfold dueB
    rw [List.all_eq_true]
    constructor
    · intro h k hk
      have := of_decide_eq_true (h k hk)
      simp only [decide_eq_true_eq]; lia
    · intro h k hk
      have := h k hk
      simp only [decide_eq_true_eq] at this ⊢; lia
  · rw [hd, if_pos rfl, if_pos rfl] at k
    refine append_ (x := "due") (cx' := [("labels", .imm (labD b)), ("blanks", .imm (.list (intsD b))), ("grown", .lst l1), ("told", .lst l3), ("loose", .lst l4), ("own", .imm (nestD (ownL ms))), ("below", .imm (nestD (belowL ms))), ("lexer", .imm (.ref L.x)), ("kept", .imm (boolsD (keptL ms))), ("count", .imm (.int (cntL ms : Nat)))]) F rm (Ev.name (x := "labels") (by walk_at "sub")) (by walk_at "sub") (by kernel_rfl) (by simp only [sizeLine]; lia) fun s N F => ?_
    have hg := fn_grown (G := G) (P := P) (L := L) (ln := ln) T.toTx (own := ownL ms) (kept := keptL ms) (parts := b) (H := hgtN (ownL ms) (keptL ms) (cntL ms) b) hO hkl hbk (fun k hk => hgt_eq hO hr hk) (fun k hk => hgt_le hsm hd hk)
    refine appendX (x := "grown") (cx0 := [("labels", .imm (labD b)), ("below", .imm (nestD (ownL ms))), ("lexer", .imm (.ref L.x)), ("kept", .imm (boolsD (keptL ms)))]) (cx' := [("due", .lst (l2 ++ [labD b])), ("labels", .imm (labD b)), ("blanks", .imm (.list (intsD b))), ("told", .lst l3), ("loose", .lst l4), ("own", .imm (nestD (ownL ms))), ("below", .imm (nestD (belowL ms))), ("lexer", .imm (.ref L.x)), ("kept", .imm (boolsD (keptL ms))), ("count", .imm (.int (cntL ms : Nat)))]) w F rm (by rw [hbl]; walk_at "sub")
      (EvX.call (nm_of (by kernel_rfl) (by kernel_rfl) T.grown) (T.fn 189 (by decide)) (EvL.cons (Ev.name (x := "lexer") (by walk_at "sub")) (EvL.cons (Ev.name (x := "below") (d := nestD (ownL ms)) (by walk_at "sub")) (EvL.cons (Ev.name (x := "kept") (d := boolsD (keptL ms)) (by walk_at "sub")) (EvL.cons (Ev.name (x := "labels") (d := labD b) (by walk_at "sub")) .nil)))) (FnX.le hg.x (by decide))) (by walk_at "sub") (by kernel_rfl) (by simp only [sizeLine]; lia) fun s N X1 w1 a1 le1 F => ?_
    refine wnil ?_
    exact k s N _ X1 w1 a1 le1 (F.sub (by unfold cxT cxL cxF grownN; rw [hb]; simp only [List.cons_append, List.nil_append]; walk_at "sub"))
  · rw [hd, if_neg (by simp), if_neg (by simp), List.append_nil, List.append_nil] at k
    refine wnil ?_
    exact k s N _ X w (fun q hq => ⟨q, hq, rfl⟩) (Bse.Le.refl _) (F.sub (by unfold cxT cxL cxF; rw [hb]; simp only [List.cons_append, List.nil_append]; walk_at "sub"))
end
end Mine
end
section
set_option tactic.hygienic false
open PySem PySem.W PyProof.Rows
namespace Mine
theorem ok_iff {own : List (List Nat)} {c : Nat} {b : List Nat} : okN own c b = true ↔ ∀ k, k < c → needN own b k ≤ b.getD k 0 := by
  unfold okN
  rw [List.all_eq_true]
  constructor
  · intro h k hk; exact of_decide_eq_true (h k (by simpa using hk))
  · intro h k hk; exact decide_eq_true (h k (by simpa using hk))
theorem not_ok {own : List (List Nat)} {c : Nat} {b : List Nat} (h : okN own c b = false) : ∃ k, k < c ∧ b.getD k 0 < needN own b k := by
  refine Classical.byContradiction fun hn => ?_
  have : okN own c b = true := ok_iff.mpr fun k hk => by
    refine Nat.le_of_not_lt fun q => hn ⟨k, hk, q⟩
  rw [h] at this; cases this
noncomputable def lostV (own : List (List Nat)) (c : Nat) (b : List Nat) : D := if okN own c b then .list (lostD own b c) else .none
noncomputable def fallsL (own : List (List Nat)) (c : Nat) (b : List Nat) : List Nat := (List.range c).filter fun k => decide (b.getD k 0 < needN own b k)
theorem falls_iff {own : List (List Nat)} {c : Nat} {b : List Nat} : okN own c b = true ↔ fallsL own c b = [] := by
  unfold fallsL
  rw [List.filter_eq_nil_iff, ok_iff]
  constructor
  · intro h k hk
    have := h k (by simpa using hk)
    simp only [decide_eq_true_eq]; lia
  · intro h k hk
    have := h k (by simpa using hk)
    simp only [decide_eq_true_eq] at this; lia
section
variable {G : Gs} {P : Params} {n : Nat} {A : Around} {env : Env} {s s₀ : Shared} {N N₀ : Lg} {X Y : Xs}
set_option maxRecDepth 10000
theorem law_turn3 (T : Tl G P) {ms : List Int} {L : Lexer} {B : Bse} {i : Nat} {l1 l2 l3 l4 : List D} {r : Nat → Nat} (hO : Own (ownL ms) (cntL ms) r) (hr : ∀ k, k < cntL ms → r k ≤ 4) (hbl : belowL ms = ownL ms) (rm : Rm A 10) (hfr : A.frames = some [env]) (hf : env.frame = some env.locals)
    (F : Fs G (sc194 P) (ownNames (sc194 P)) B (cxT ms L i (cxF l1 l2 l3 l4)) env s N) {Q : Flow → Shared → Prop} {E : Value → Shared → Prop}
    (k : ∀ s N, Fs G (sc194 P) (ownNames (sc194 P)) B (("lost", .imm (lostV (ownL ms) (cntL ms) (blkN (cntL ms) i))) :: cxT ms L i (cxF l1 l2 l3 l4)) env s N → Wp G A (execs ((loopP P).drop 4) env) Q E s) :
    Wp G A (execs ((loopP P).drop 3) env) Q E s := by
  have hbk := blk_len (cntL ms) i
  have hsm := blk_small (cntL ms) i
  generalize hb : blkN (cntL ms) i = b at *
  replace F : Fs G (sc194 P) (ownNames (sc194 P)) B [("labels", .imm (labD b)), ("blanks", .imm (.list (intsD b))), ("grown", .lst l1), ("due", .lst l2), ("told", .lst l3), ("loose", .lst l4), ("own", .imm (nestD (ownL ms))), ("below", .imm (nestD (belowL ms))), ("lexer", .imm (.ref L.x)), ("kept", .imm (boolsD (keptL ms))), ("count", .imm (.int (cntL ms : Nat)))] env s N := by
    rw [← hb]; exact F
  have ha : EvL G 10 (sc194 P) [("labels", .imm (labD b)), ("blanks", .imm (.list (intsD b))), ("grown", .lst l1), ("due", .lst l2), ("told", .lst l3), ("loose", .lst l4), ("own", .imm (nestD (ownL ms))), ("below", .imm (nestD (belowL ms))), ("lexer", .imm (.ref L.x)), ("kept", .imm (boolsD (keptL ms))), ("count", .imm (.int (cntL ms : Nat)))] [Expr.Name "below" ⟨0, 0, 0, 0⟩] [nestD (ownL ms)] := by
    rw [hbl]; exact EvL.cons (Ev.name (x := "below") (by walk_at "sub")) .nil
  cases hok : okN (ownL ms) (cntL ms) b with
  | true =>
    have hv : lostV (ownL ms) (cntL ms) b = .list (lostD (ownL ms) b (cntL ms)) := by unfold lostV; rw [hok]; rfl
    rw [hv] at k
    refine asg (x := "lost") F rm (Ev.call (nm_of (by kernel_rfl) (by kernel_rfl) T.lost) (T.fn 184 (by decide)) (EvL.cons (Ev.name (x := "below") (d := nestD (ownL ms)) (by rw [hbl]; walk_at "sub")) (EvL.cons (Ev.name (x := "labels") (d := labD b) (by walk_at "sub")) .nil)) ((fn_lost T.toTx hO hbk hsm (ok_iff.mp hok)).le (by decide))) (by kernel_rfl) fun s N F => ?_
    exact k s N (F.sub (by unfold cxT cxL cxF; rw [hb]; simp only [List.cons_append, List.nil_append]; walk_at "sub"))
  | false =>
    have hv : lostV (ownL ms) (cntL ms) b = .none := by unfold lostV; rw [hok]; rfl
    rw [hv] at k
    have hN := fn_lostN T.toTx hO hbk hsm (not_ok hok)
    refine asgN (x := "lost") F rm hfr hf (nm_of (by kernel_rfl) (by kernel_rfl) T.lost) (T.fn 184 (by decide)) (EvL.cons (Ev.name (x := "below") (d := nestD (ownL ms)) (by rw [hbl]; walk_at "sub")) (EvL.cons (Ev.name (x := "labels") (d := labD b) (by walk_at "sub")) .nil)) ⟨fun A s N vs base l rm => hN.go A s N vs base l (rm.le (by decide))⟩ (by kernel_rfl) fun s N F => ?_
    exact k s N (F.sub (by unfold cxT cxL cxF; rw [hb]; simp only [List.cons_append, List.nil_append]; walk_at "sub"))
end
end Mine
end
section
set_option tactic.hygienic false
open PySem PySem.W PyProof.Rows
namespace Mine
section
variable {G : Gs} {P : Params} {n : Nat} {A : Around} {env : Env} {s s₀ : Shared} {N N₀ : Lg} {X Y : Xs}
set_option maxRecDepth 10000
theorem law_turn4 (T : Tl G P) {ms : List Int} {L : Lexer} {B : Bse} {i : Nat} {l1 l2 l3 l4 : List D} {v : D} {r : Nat → Nat} (hO : Own (ownL ms) (cntL ms) r) (rm : Rm A 10)
    (F : Fs G (sc194 P) (ownNames (sc194 P)) B (("lost", .imm v) :: cxT ms L i (cxF l1 l2 l3 l4)) env s N) {Q : Flow → Shared → Prop} {E : Value → Shared → Prop}
    (k : ∀ s N, Fs G (sc194 P) (ownNames (sc194 P)) B (("falls", .imm (.list ((fallsL (ownL ms) (cntL ms) (blkN (cntL ms) i)).map fun (j : Nat) => D.int (0 + (j : Int))))) :: ("lost", .imm v) :: cxT ms L i (cxF l1 l2 l3 l4)) env s N → Wp G A (execs ((loopP P).drop 5) env) Q E s) :
    Wp G A (execs ((loopP P).drop 4) env) Q E s := by
  have hc := cnt_le ms
  have hol := own_len ms
  have hbk := blk_len (cntL ms) i
  generalize hb : blkN (cntL ms) i = b at *
  replace F : Fs G (sc194 P) (ownNames (sc194 P)) B [("lost", .imm v), ("labels", .imm (labD b)), ("blanks", .imm (.list (intsD b))), ("grown", .lst l1), ("due", .lst l2), ("told", .lst l3), ("loose", .lst l4), ("own", .imm (nestD (ownL ms))), ("below", .imm (nestD (belowL ms))), ("lexer", .imm (.ref L.x)), ("kept", .imm (boolsD (keptL ms))), ("count", .imm (.int (cntL ms : Nat)))] env s N := by
    rw [← hb]; exact F
  refine asgC (x := "falls") (List.range (cntL ms)) (fun (k : Nat) => .int (0 + (k : Int))) (fun k => decide (b.getD k 0 < needN (ownL ms) b k)) (fun k => .int (0 + (k : Int))) (fun k => [("k", .imm (.int (0 + (k : Int))))]) [("blanks", .imm (.list (intsD b))), ("own", .imm (nestD (ownL ms)))] F rm (by kernel_rfl) (by kernel_rfl)
    (EvI.range1 (k := cntL ms) (b := (cntL ms : Nat)) (nm_bi T.toTx (by kernel_rfl) (by kernel_rfl) (by decide)) (Ev.name (x := "count") (by walk_at "sub")) (.inl rfl) (by lia) (by lia)) (by kernel_rfl) (by walk_at "sub") (fun k _ => Tgt.name (by kernel_rfl)) (fun k hk => ?_) (fun k hk _ => ?_) (by simp only [List.length_range, sizeLine]; lia) fun s N F => ?_
  · have hkc : k < cntL ms := by simpa using hk
    have hfew := hO.few k
    have e0 : (0 : Int) + (k : Int) = ((k : Nat) : Int) := by lia
    rw [e0]
    simp only [List.cons_append, List.nil_append]
    have hmx : maxL ((0 : Int) :: ((((ownL ms).getD k []).map fun m => b.getD m 0).map fun (j : Nat) => (j : Int))) = ((needN (ownL ms) b k : Nat) : Int) := maxL_cast _
    refine EvTs.one (EvT.eq (EvT.cmp (Ev.eq (Ev.callB (nm_bi T.toTx (by kernel_rfl) (by kernel_rfl) (by decide)) (EvL.cons (EvM.ev (EvM.eq (EvM.bin (EvM.ev (EvM.disp (EvL.cons (Ev.int (i := 0)) .nil) (by simp [sizeLine]))) (EvM.ev (EvM.map ((ownL ms).getD k []) (fun (m : Nat) => .int m) (fun m => .int ((b.getD m 0 : Nat) : Int)) (fun m => [("m", .imm (.int m))]) [("blanks", .imm (.list (intsD b)))]
      (EvI.list (Ev.item (Ev.name (x := "own") (d := nestD (ownL ms)) (by walk_at "sub")) (Ev.name (x := "k") (by walk_at "sub")) (it_list (by lia) (by rw [Int.toNat_natCast]; exact nestD_get (by lia)) (by lia)))) (by kernel_rfl) (by walk_at "sub") (fun m _ => Tgt.name (by kernel_rfl)) (fun m hm => ?_) (by simp only [sizeLine]; lia))) (op_addL (by simp only [List.length_map, List.length_cons, List.length_nil, sizeLine]; lia)))
      (d' := (((0 : Int) :: ((((ownL ms).getD k []).map fun m => b.getD m 0).map fun (j : Nat) => (j : Int))).map .int)) ?_)) .nil) fn_max) (congrArg D.int hmx)) (Ev.item (Ev.name (x := "blanks") (by walk_at "sub")) (Ev.name (x := "k") (by walk_at "sub")) (it_list (by lia) (by rw [Int.toNat_natCast]; exact intsD_get (by lia)) (by lia))) cm_gt) ?_)
    · have hmc := hO.lt k m hm
      simp only [List.cons_append, List.nil_append]
      exact Ev.item (Ev.name (x := "blanks") (by walk_at "sub")) (Ev.name (x := "m") (by walk_at "sub")) (it_list (by lia) (by rw [Int.toNat_natCast]; exact intsD_get (by lia)) (by lia))
    · simp [List.map_map, Function.comp_def]
    · simp
  · simp only [List.cons_append, List.nil_append]
    exact Ev.name (x := "k") (by walk_at "sub")
  obtain ⟨N', F⟩ := F.frz (by kernel_rfl)
  exact k s N' (F.sub (by unfold cxT cxL cxF fallsL; rw [hb]; simp only [List.cons_append, List.nil_append]; walk_at "sub"))
end
end Mine
end
section
set_option tactic.hygienic false
open PySem PySem.W PyProof.Rows
namespace Mine
section
variable {G : Gs} {P : Params} {n : Nat} {A : Around} {env : Env} {s s₀ : Shared} {N N₀ : Lg} {X Y : Xs}
set_option maxRecDepth 10000
theorem law_turn5 (T : Tl G P) {ms : List Int} {L : Lexer} {B : Bse} {i : Nat} {l1 l2 l3 l4 : List D} (rm : Rm A 10)
    (F : Fs G (sc194 P) (ownNames (sc194 P)) B (("falls", .imm (.list ((fallsL (ownL ms) (cntL ms) (blkN (cntL ms) i)).map fun (j : Nat) => D.int (0 + (j : Int))))) :: ("lost", .imm (lostV (ownL ms) (cntL ms) (blkN (cntL ms) i))) :: cxT ms L i (cxF l1 l2 l3 l4)) env s N) {Q : Flow → Shared → Prop} {E : Value → Shared → Prop}
    (k : ∀ s N, Fs G (sc194 P) (ownNames (sc194 P)) B (("lost", .imm (lostV (ownL ms) (cntL ms) (blkN (cntL ms) i))) :: cxT ms L i (cxF l1 l2 l3 l4)) env s N → Wp G A (execs ((loopP P).drop 6) env) Q E s) :
    Wp G A (execs ((loopP P).drop 5) env) Q E s := by
  generalize hb : blkN (cntL ms) i = b at *
  have hfi : okN (ownL ms) (cntL ms) b = true ↔ fallsL (ownL ms) (cntL ms) b = [] := falls_iff
  have hfd : ∀ {c : Bool}, (c = false ↔ fallsL (ownL ms) (cntL ms) b = []) → (c = false ↔ (D.list ((fallsL (ownL ms) (cntL ms) b).map fun (j : Nat) => D.int (0 + (j : Int)))).dat = (D.list []).dat) := fun {c} h => by
    rw [h]
    cases fallsL (ownL ms) (cntL ms) b with
    | nil => simp
    | cons a l => simp [D.dat, D.dats]
  replace F := F.sub (cx' := ("falls", .imm (.list ((fallsL (ownL ms) (cntL ms) b).map fun (j : Nat) => D.int (0 + (j : Int))))) :: ("lost", .imm (lostV (ownL ms) (cntL ms) b)) :: cxT ms L i (cxF l1 l2 l3 l4)) (fun q h => h)
  refine if_ (b := false) F rm ?_ (fun h => nomatch h) (fun _ s N F => wnil (k s N (F.sub fun q h => List.mem_cons_of_mem _ h)))
  cases hok : okN (ownL ms) (cntL ms) b with
  | true =>
    have hv : lostV (ownL ms) (cntL ms) b = .list (lostD (ownL ms) b (cntL ms)) := by unfold lostV; rw [hok]; rfl
    rw [hv]
    exact EvT.eq (EvT.cmp (Ev.cmp (Ev.name (x := "lost") (d := .list (lostD (ownL ms) b (cntL ms))) (by walk_at "sub")) Ev.none (cm_isNone (by simp))) (Ev.cmp (Ev.name (x := "falls") (by walk_at "sub")) (EvM.ev (EvM.disp .nil (Nat.zero_le _))) (cm_neD (b := false) (ints_ok _) (by rfl) (hfd ⟨fun _ => hfi.mp hok, fun _ => rfl⟩))) cm_neB) rfl
  | false =>
    have hv : lostV (ownL ms) (cntL ms) b = .none := by unfold lostV; rw [hok]; rfl
    rw [hv]
    exact EvT.eq (EvT.cmp (Ev.cmp (Ev.name (x := "lost") (d := .none) (by walk_at "sub")) Ev.none cm_isNone') (Ev.cmp (Ev.name (x := "falls") (by walk_at "sub")) (EvM.ev (EvM.disp .nil (Nat.zero_le _))) (cm_neD (b := true) (ints_ok _) (by rfl) (hfd ⟨fun h => (nomatch h), fun h => by rw [hfi.mpr h] at hok; cases hok⟩))) cm_neB) rfl
end
end Mine
end
section
set_option tactic.hygienic false
open PySem PySem.W PyProof.Rows
namespace Mine
theorem xblanks_is (m : Nat) : xblanks m = "x" ++ blanks m := by
  have e : ("x" : Str) = S [120] := by decide +kernel
  rw [e]
  show (⟨(120 :: List.replicate m 32).toArray⟩ : Str) = ⟨[120].toArray ++ (List.replicate m 32).toArray⟩
  simp
theorem list_range {b : List Nat} {c : Nat} (h : b.length = c) : b = (List.range c).map fun k => b.getD k 0 := by
  apply List.ext_getElem
  · simp [h]
  · intro i h1 h2
    simp [List.getD_eq_getElem?_getD, h1]
theorem zip_lost {own : List (List Nat)} {b : List Nat} {c : Nat} (h : b.length = c) : zipD (b.map fun m => D.str (blanks m)) (lostD own b c) = (List.range c).map fun k => pairD (.str (blanks (b.getD k 0))) (.str (blanks (b.getD k 0 - needN own b k))) := by
  have e : (b.map fun m => D.str (blanks m)) = (List.range c).map fun k => .str (blanks (b.getD k 0)) := by
    conv => lhs; rw [list_range h]
    rw [List.map_map]; rfl
  rw [e]
  unfold zipD lostD
  rw [List.zip_map', List.map_map]
  rfl
section
variable {G : Gs} {P : Params} {n : Nat} {A : Around} {env : Env} {s s₀ : Shared} {N N₀ : Lg} {X Y : Xs}
set_option maxRecDepth 10000
theorem law_turn6 (T : Tl G P) {ms : List Int} {L : Lexer} {B : Bse} {i : Nat} {l1 l2 l3 l4 : List D} (rm : Rm A 10) (h3 : l3.length ≤ 1000) (h4 : l4.length ≤ 1000)
    (F : Fs G (sc194 P) (ownNames (sc194 P)) B (("lost", .imm (lostV (ownL ms) (cntL ms) (blkN (cntL ms) i))) :: cxT ms L i (cxF l1 l2 l3 l4)) env s N) {Q : Flow → Shared → Prop} {E : Value → Shared → Prop}
    (k : ∀ s N, Fs G (sc194 P) (ownNames (sc194 P)) B (cxF l1 l2 (l3 ++ if okN (ownL ms) (cntL ms) (blkN (cntL ms) i) then [labD (toldN (ownL ms) (keptL ms) (cntL ms) (blkN (cntL ms) i))] else []) (l4 ++ if okN (ownL ms) (cntL ms) (blkN (cntL ms) i) then [labD (blkN (cntL ms) i)] else []) ++ cxL ms L) env s N → Q .next s) :
    Wp G A (execs ((loopP P).drop 6) env) Q E s := by
  have hc := cnt_le ms
  have hkl := keptL_len ms
  have hbk := blk_len (cntL ms) i
  have hsm := blk_small (cntL ms) i
  generalize hb : blkN (cntL ms) i = b at *
  replace F : Fs G (sc194 P) (ownNames (sc194 P)) B [("lost", .imm (lostV (ownL ms) (cntL ms) b)), ("labels", .imm (labD b)), ("blanks", .imm (.list (intsD b))), ("grown", .lst l1), ("due", .lst l2), ("told", .lst l3), ("loose", .lst l4), ("own", .imm (nestD (ownL ms))), ("below", .imm (nestD (belowL ms))), ("lexer", .imm (.ref L.x)), ("kept", .imm (boolsD (keptL ms))), ("count", .imm (.int (cntL ms : Nat)))] env s N := by
    have F' := F
    unfold cxT cxF cxL at F'
    rw [hb] at F'
    exact F'
  cases hok : okN (ownL ms) (cntL ms) b with
  | false =>
    have hv : lostV (ownL ms) (cntL ms) b = .none := by unfold lostV; rw [hok]; rfl
    rw [hv] at F
    rw [hok, if_neg (by simp), if_neg (by simp), List.append_nil, List.append_nil] at k
    refine if_ (b := false) F rm (EvT.cmp (Ev.name (x := "lost") (d := .none) (by walk_at "sub")) Ev.none cm_isNotNone') (fun h => nomatch h) (fun _ s N F => wnil (wnil (k s N (F.sub (by unfold cxF cxL; simp only [List.cons_append, List.nil_append]; walk_at "sub")))))
  | true =>
    have hv : lostV (ownL ms) (cntL ms) b = .list (lostD (ownL ms) b (cntL ms)) := by unfold lostV; rw [hok]; rfl
    rw [hv] at F
    rw [hok, if_pos rfl, if_pos rfl] at k
    refine if_ (b := true) F rm (EvT.cmp (Ev.name (x := "lost") (d := .list (lostD (ownL ms) b (cntL ms))) (by walk_at "sub")) Ev.none (cm_isNotNone (by simp))) (fun _ s N F => ?_) (fun h => nomatch h)
    have hne : ∀ k, k < cntL ms → needN (ownL ms) b k ≤ b.getD k 0 := ok_iff.mp hok
    have hokx : (D.list ((List.range (cntL ms)).map fun k => D.str (xblanks (b.getD k 0 - needN (ownL ms) b k)))).ok = true := by
      rw [D.ok_list]
      intro d hd
      obtain ⟨k, _, rfl⟩ := List.mem_map.mp hd
      have h2 := hsm k
      refine str_dat_ok ?_ 8
      generalize hm : b.getD k 0 - needN (ownL ms) b k = m
      rcases (show m = 0 ∨ m = 1 ∨ m = 2 by lia) with rfl | rfl | rfl <;> decide +kernel
    refine if_ (b := false) F rm (EvT.cmp
      (EvM.ev (EvM.map (List.range (cntL ms)) (fun k => pairD (.str (blanks (b.getD k 0))) (.str (blanks (b.getD k 0 - needN (ownL ms) b k)))) (fun k => .str (xblanks (b.getD k 0 - needN (ownL ms) b k))) (fun k => [("rest", .imm (.str (blanks (b.getD k 0 - needN (ownL ms) b k)))), ("label", .imm (.str (blanks (b.getD k 0))))]) []
        (by rw [← zip_lost hbk]; exact EvI.zip (nm_bi T.toTx (by kernel_rfl) (by kernel_rfl) (by decide)) (Ev.name (x := "labels") (d := labD b) (by walk_at "sub")) (Ev.name (x := "lost") (d := .list (lostD (ownL ms) b (cntL ms))) (by walk_at "sub"))) (by kernel_rfl) (fun q h => nomatch h) (fun k _ => Tgt.tuple2 (by kernel_rfl) (by kernel_rfl)) (fun k hk => ?_) (by simp only [List.length_range, sizeLine]; lia)))
      (EvM.ev (EvM.map (List.range (cntL ms)) (fun k => .str (blanks (b.getD k 0 - needN (ownL ms) b k))) (fun k => .str (xblanks (b.getD k 0 - needN (ownL ms) b k))) (fun k => [("rest", .imm (.str (blanks (b.getD k 0 - needN (ownL ms) b k))))]) []
        (EvI.list (Ev.name (x := "lost") (d := .list (lostD (ownL ms) b (cntL ms))) (by walk_at "sub"))) (by kernel_rfl) (fun q h => nomatch h) (fun k _ => Tgt.name (by kernel_rfl)) (fun k hk => ?_) (by simp only [List.length_range, sizeLine]; lia)))
      (cm_neD hokx hokx ⟨fun _ => rfl, fun _ => rfl⟩)) (fun h => nomatch h) (fun _ s N F => ?_)
    · have hkc : k < cntL ms := by simpa using hk
      have h2 := hsm k
      have hn := hne k hkc
      have e : ("x" : Str).length = 1 := by decide +kernel
      have hl : ∀ m, m ≤ 2 → (blanks m).length ≤ sizeLine := fun m hm => by rw [blanks_len]; simp only [sizeLine]; lia
      have e2 : (((blanks (b.getD k 0)).length : Nat) : Int) - (((blanks (b.getD k 0 - needN (ownL ms) b k)).length : Nat) : Int) = ((needN (ownL ms) b k : Nat) : Int) := by rw [blanks_len, blanks_len]; lia
      simp only [List.cons_append, List.nil_append]
      exact Ev.call (nm_of (by kernel_rfl) (by kernel_rfl) T.strip) (T.fn 35 (by decide)) (EvL.cons (Ev.eq (Ev.bin (Ev.str (x := "x")) (Ev.name (x := "label") (by walk_at "sub")) (op_addS (by rw [e, blanks_len]; simp only [sizeLine]; lia))) (d' := .str (xblanks (b.getD k 0))) (by rw [xblanks_is])) (EvL.cons (Ev.eq (Ev.bin (Ev.callB (nm_bi T.toTx (by kernel_rfl) (by kernel_rfl) (by decide)) (EvL.cons (Ev.name (x := "label") (by walk_at "sub")) .nil) (fn_lenS (hl _ h2))) (Ev.callB (nm_bi T.toTx (by kernel_rfl) (by kernel_rfl) (by decide)) (EvL.cons (Ev.name (x := "rest") (by walk_at "sub")) .nil) (fn_lenS (hl _ (by lia)))) op_sub) (congrArg D.int e2)) .nil)) ((fn_stripx T.toTx h2 hn).le (by decide))
    · have h2 := hsm k
      simp only [List.cons_append, List.nil_append]
      refine Ev.eq (Ev.bin (Ev.str (x := "x")) (Ev.name (x := "rest") (by walk_at "sub")) (op_addS ?_)) (by rw [xblanks_is])
      have e : ("x" : Str).length = 1 := by decide +kernel
      rw [e, blanks_len]; simp only [sizeLine]; lia
    · refine wnil ?_
      refine append_ (x := "loose") (cx' := [("lost", .imm (.list (lostD (ownL ms) b (cntL ms)))), ("labels", .imm (labD b)), ("grown", .lst l1), ("due", .lst l2), ("told", .lst l3), ("own", .imm (nestD (ownL ms))), ("below", .imm (nestD (belowL ms))), ("lexer", .imm (.ref L.x)), ("kept", .imm (boolsD (keptL ms))), ("count", .imm (.int (cntL ms : Nat)))]) F rm (Ev.name (x := "labels") (by walk_at "sub")) (by walk_at "sub") (by kernel_rfl) (by simp only [sizeLine]; lia) fun s N F => ?_
      refine append_ (x := "told") (d := labD (toldN (ownL ms) (keptL ms) (cntL ms) b)) (cx' := [("loose", .lst (l4 ++ [labD b])), ("grown", .lst l1), ("due", .lst l2), ("own", .imm (nestD (ownL ms))), ("below", .imm (nestD (belowL ms))), ("lexer", .imm (.ref L.x)), ("kept", .imm (boolsD (keptL ms))), ("count", .imm (.int (cntL ms : Nat)))]) F rm (EvM.ev (EvM.eq (EvM.map (List.range (cntL ms)) (fun (k : Nat) => .int (0 + (k : Int))) (fun k => .str (blanks (if (keptL ms).getD k false then b.getD k 0 else b.getD k 0 - needN (ownL ms) b k))) (fun k => [("k", .imm (.int (0 + (k : Int))))]) [("labels", .imm (labD b)), ("lost", .imm (.list (lostD (ownL ms) b (cntL ms)))), ("kept", .imm (boolsD (keptL ms)))]
        (EvI.range1 (k := cntL ms) (b := (cntL ms : Nat)) (nm_bi T.toTx (by kernel_rfl) (by kernel_rfl) (by decide)) (Ev.name (x := "count") (by walk_at "sub")) (.inl rfl) (by lia) (by lia)) (by kernel_rfl) (by walk_at "sub") (fun k _ => Tgt.name (by kernel_rfl)) (fun k hk => ?_) (by simp only [List.length_range, sizeLine]; lia)) (d' := (toldN (ownL ms) (keptL ms) (cntL ms) b).map fun m => .str (blanks m)) (by unfold toldN; rw [List.map_map]; rfl))) (by walk_at "sub") (by kernel_rfl) (by simp only [sizeLine]; lia) fun s N F => ?_
      · have hkc : k < cntL ms := by simpa using hk
        have e0 : (0 : Int) + (k : Int) = ((k : Nat) : Int) := by lia
        rw [e0]
        simp only [List.cons_append, List.nil_append]
        refine Ev.ite (b := (keptL ms).getD k false) (EvT.val (Ev.item (Ev.name (x := "kept") (d := boolsD (keptL ms)) (by walk_at "sub")) (Ev.name (x := "k") (by walk_at "sub")) (it_list (by lia) (by rw [Int.toNat_natCast]; exact boolsD_get (by lia)) (by lia))) Tr.bool) (fun hb => ?_) (fun hb => ?_)
        · rw [hb, if_pos rfl]
          exact Ev.item (Ev.name (x := "labels") (d := labD b) (by walk_at "sub")) (Ev.name (x := "k") (by walk_at "sub")) (it_list (by lia) (by rw [Int.toNat_natCast]; exact labD_get (by lia)) (by lia))
        · rw [hb, if_neg (by simp)]
          exact Ev.item (Ev.name (x := "lost") (d := .list (lostD (ownL ms) b (cntL ms))) (by walk_at "sub")) (Ev.name (x := "k") (by walk_at "sub")) (it_list (by lia) (by rw [Int.toNat_natCast]; unfold lostD; rw [List.getElem?_map, List.getElem?_range hkc]; rfl) (by lia))
      · exact wnil (wnil (k s N (F.sub (by unfold cxF cxL; simp only [List.cons_append, List.nil_append]; walk_at "sub"))))
end
end Mine
end
section
set_option tactic.hygienic false
open PySem PySem.W PyProof.Rows
namespace Mine
theorem cx4_succ (ms : List Int) (i : Nat) : cx4 ms (i + 1) = cxF (labsD ((dueNums (ownL ms) (keptL ms) (cntL ms) i).map (grownN (ownL ms) (keptL ms) (cntL ms))) ++ if dueB (ownL ms) (keptL ms) (cntL ms) (blkN (cntL ms) i) then [labD (grownN (ownL ms) (keptL ms) (cntL ms) (blkN (cntL ms) i))] else [])
    (labsD (dueNums (ownL ms) (keptL ms) (cntL ms) i) ++ if dueB (ownL ms) (keptL ms) (cntL ms) (blkN (cntL ms) i) then [labD (blkN (cntL ms) i)] else [])
    (labsD ((okNums (ownL ms) (cntL ms) i).map (toldN (ownL ms) (keptL ms) (cntL ms))) ++ if okN (ownL ms) (cntL ms) (blkN (cntL ms) i) then [labD (toldN (ownL ms) (keptL ms) (cntL ms) (blkN (cntL ms) i))] else [])
    (labsD (okNums (ownL ms) (cntL ms) i) ++ if okN (ownL ms) (cntL ms) (blkN (cntL ms) i) then [labD (blkN (cntL ms) i)] else []) := by
  unfold cx4 cxF labsD
  rw [dueNums_succ, okNums_succ]
  cases dueB (ownL ms) (keptL ms) (cntL ms) (blkN (cntL ms) i) <;> cases okN (ownL ms) (cntL ms) (blkN (cntL ms) i) <;> simp
theorem okNums_len (own : List (List Nat)) (c i : Nat) : (okNums own c i).length ≤ i := by
  unfold okNums
  exact Nat.le_trans (List.length_filter_le _ _) (by simp)
theorem dueNums_len (own : List (List Nat)) (kept : List Bool) (c i : Nat) : (dueNums own kept c i).length ≤ i := by
  unfold dueNums
  exact Nat.le_trans (List.length_filter_le _ _) (by simp)
section
variable {G : Gs} {P : Params} {n : Nat} {A : Around} {env : Env} {s s₀ : Shared} {N N₀ : Lg} {X Y : Xs}
set_option maxRecDepth 10000
theorem law_loop (T : Tl G P) {ms : List Int} {L : Lexer} {ln : Nat} {r : Nat → Nat} (hO : Own (ownL ms) (cntL ms) r) (hr : ∀ k, k < cntL ms → r k ≤ 4) (hbl : belowL ms = ownL ms) (rm : Rm A 10) (hfr : A.frames = some [env]) (hf : env.frame = some env.locals)
    {N₁ : Lg} (w : WX (WL P L 0 ln [] []) N₁ X Y) (F : Fs G (sc194 P) (ownNames (sc194 P)) ⟨X ++ Y, s₀, N₁⟩ (cx4 ms 0 ++ cxL ms L) env s N) {Q : Flow → Shared → Prop} {E : Value → Shared → Prop}
    (k : ∀ s N N₂ X', WX (WL P L 0 ln [] []) N₂ X' Y → Bse.Le ⟨X ++ Y, s₀, N₁⟩ ⟨X' ++ Y, s₀, N₂⟩ → Fs G (sc194 P) (ownNames (sc194 P)) ⟨X' ++ Y, s₀, N₂⟩ (cx4 ms (3 ^ cntL ms) ++ cxL ms L) env s N → Wp G A (execs ((bodyOf (fdP P 194)).drop 17) env) Q E s) :
    Wp G A (execs ((bodyOf (fdP P 194)).drop 16) env) Q E s := by
  have hc := cnt_le ms
  obtain ⟨p1, p2, p3, p4⟩ := pow3 (k := cntL ms) hc.1
  refine forX (cx0 := cxL ms L) (items := rng 0 (3 ^ cntL ms)) (fun i (σ : Nat) => σ = i) (fun _ => False) (fun _ => WL P L 0 ln [] []) (fun i => cx4 ms i ++ cxL ms L) (fun d => [("number", .imm d)]) 0 w F rm (fun q h => List.mem_append_right _ h)
    (EvIX.pure (EvI.range1 (k := 3 ^ cntL ms) (b := ((3 ^ cntL ms : Nat) : Int)) (nm_bi T.toTx (by kernel_rfl) (by kernel_rfl) (by decide)) (Ev.eq (Ev.bin (Ev.int (i := 3)) (Ev.name (x := "count") (d := .int (cntL ms : Nat)) (by unfold cxL; walk_at "sub")) (op_pow (by lia) p1)) (congrArg D.int p2)) (.inl rfl) (by lia) (by lia))) (fun q h => h) rfl (fun i σ d _ _ => Tgt.name (by kernel_rfl)) ?_ ?_
  · intro i σ d s N E' Y' N₂ X1 hP hd w1 a1 le1 F
    subst hP
    rw [rng, List.getElem?_map] at hd
    obtain ⟨j, hj, rfl⟩ := Option.map_eq_some_iff.mp hd
    have hi : σ < 3 ^ cntL ms := by simpa using (List.getElem?_eq_some_iff.mp hj).1
    rw [List.getElem?_range hi] at hj
    cases hj
    have e0 : (0 : Int) + (σ : Int) = ((σ : Nat) : Int) := by lia
    rw [e0] at F
    have d1 := dueNums_len (ownL ms) (keptL ms) (cntL ms) σ
    have d2 := okNums_len (ownL ms) (cntL ms) σ
    refine law_turn1 T rm F fun s N F => ?_
    refine law_turn2 T hO hr hbl rm (by simp [labsD]; lia) (by simp [labsD]; lia) w1 F fun s N N₃ X' w2 a2 l2 F => ?_
    refine law_turn3 T hO hr hbl rm hfr hf F fun s N F => ?_
    refine law_turn4 T hO rm F fun s N F => ?_
    refine law_turn5 T rm F fun s N F => ?_
    refine law_turn6 T rm (by simp [labsD]; lia) (by simp [labsD]; lia) F fun s N F => ?_
    exact ⟨σ + 1, N, N₃, X', rfl, w2, a2, l2, by rw [cx4_succ]; exact F⟩
  · intro σ s N N₂ X1 hP w1 a1 le1 F
    rcases hP with hP | hP
    · have : σ = 3 ^ cntL ms := by rw [hP]; simp [rng]
      subst this
      exact k s N N₂ X1 w1 le1 F
    · exact hP.elim
end
end Mine
end
section
set_option tactic.hygienic false
open PySem PySem.W PyProof.Rows
namespace Mine
section
variable {G : Gs} {P : Params} {n : Nat} {A : Around} {env : Env} {s s₀ : Shared} {N N₀ : Lg} {X Y : Xs}
set_option maxRecDepth 10000
theorem law_all (T : Tl G P) {ms : List Int} (hms : ms.length ≤ 63) {r : Nat → Nat} (hO : Own (ownL ms) (cntL ms) r) (hr : ∀ k, k < cntL ms → r k ≤ 4) (hbl : belowL ms = ownL ms) (rm : Rm A 10) (hfr : A.frames = some [env]) (hf : env.frame = some env.locals) (hY : ∀ q ∈ Y, q.1 ≠ 145)
    (F : Fs G (sc194 P) (ownNames (sc194 P)) ⟨[(145, tabObj #[])] ++ Y, s₀, N₀⟩ [("script", .imm (.list (ms.map .int)))] env s N) {Q : Flow → Shared → Prop} {E : Value → Shared → Prop}
    (k : ∀ L mo s N N₃ X3, Bse.Le ⟨[(145, tabObj #[])] ++ Y, s₀, N₀⟩ ⟨X3 ++ ([(145, tabObj mo)] ++ Y), s₀, N₃⟩ → Fs G (sc194 P) (ownNames (sc194 P)) ⟨X3 ++ ([(145, tabObj mo)] ++ Y), s₀, N₃⟩ (cx4 ms (3 ^ cntL ms) ++ cxL ms L) env s N → Wp G A (execs ((bodyOf (fdP P 194)).drop 17) env) Q E s) : Wp G A (execs (bodyOf (fdP P 194)) env) Q E s := by
  refine law_walk1 T hms rm hY F fun L mo s N N₁ X w l1 F => ?_
  refine law_walk2 T rm w F fun s N N₂ X' w2 a2 l2 F => ?_
  refine law_walk3 T rm w2 F fun s N F => ?_
  refine law_walk4 T rm F fun s N F => ?_
  refine law_walk5 T rm F fun s N F => ?_
  refine law_walk6 T rm F fun s N F => ?_
  exact law_loop T hO hr hbl rm hfr hf w2 F fun s N N₃ X3 w3 l3 F => k L mo s N N₃ X3 (l1.trans (l2.trans l3)) F
end
end Mine
end
section
set_option tactic.hygienic false
open PySem PySem.W PyProof.Rows
namespace Mine
noncomputable def runT {α : Type} (lt : Nat → Nat → Bool) : KasT α → α
  | .ret a => a
  | .ask i j k => runT lt (k (lt i j))
theorem runT_bind {α β : Type} (lt : Nat → Nat → Bool) (f : α → KasT β) : ∀ (t : KasT α), runT lt (t.bind f) = runT lt (f (runT lt t))
  | .ret _ => rfl
  | .ask i j k => runT_bind lt f (k (lt i j))
theorem runT_wp {α : Type} {cmp : Nat → Nat → (Bool → Shared → Prop) → Shared → Prop} {lt : Nat → Nat → Bool} {s : Shared} (hc : ∀ i j (C : Bool → Shared → Prop), C (lt i j) s → cmp i j C s) {Q : α → Shared → Prop} : ∀ (t : KasT α), Q (runT lt t) s → t.kasWp cmp Q s
  | .ret _, h => h
  | .ask i j k, h => hc i j _ (runT_wp hc (k (lt i j)) h)
end Mine
end
section
set_option tactic.hygienic false
open PySem PySem.W PyProof.Rows
namespace Mine
structure Prm (p : Array Nat) (n : Nat) : Prop where
  size : p.size = n
  perm : p.toList.Perm (List.range n)
theorem Prm.nodup {p : Array Nat} {n : Nat} (h : Prm p n) : p.toList.Nodup := h.perm.nodup_iff.mpr List.nodup_range
noncomputable def SrtTo (rank : Nat → Nat) (p : Array Nat) (m : Nat) : Prop := ∀ i j, i < j → j < m → rank (p.getD i 0) < rank (p.getD j 0)
noncomputable def Inj (rank : Nat → Nat) (n : Nat) : Prop := ∀ i j, i < n → j < n → rank i = rank j → i = j
theorem Prm.lt {p : Array Nat} {n : Nat} (h : Prm p n) {i : Nat} (hi : i < n) : p.getD i 0 < n := by
  have hs := h.size
  have e : p.getD i 0 = p[i]'(by lia) := by simp [Array.getD, show i < p.size by lia]
  have hm : p[i]'(by lia) ∈ p.toList := by simp
  rw [e]
  have := h.perm.mem_iff.mp hm
  simpa using this
theorem Prm.ne {p : Array Nat} {n : Nat} (h : Prm p n) {i j : Nat} (hi : i < n) (hj : j < n) (hij : i ≠ j) : p.getD i 0 ≠ p.getD j 0 := by
  have hs := h.size
  intro e
  have ei : p.getD i 0 = p.toList[i]'(by simp; lia) := by simp [Array.getD, show i < p.size by lia]
  have ej : p.getD j 0 = p.toList[j]'(by simp; lia) := by simp [Array.getD, show j < p.size by lia]
  rw [ei, ej] at e
  have hp := List.pairwise_iff_getElem.mp h.nodup
  rcases Nat.lt_or_gt_of_ne hij with hlt | hlt
  · exact hp i j (by simp; lia) (by simp; lia) hlt e
  · exact hp j i (by simp; lia) (by simp; lia) hlt e.symm
end Mine
end
section
set_option tactic.hygienic false
open PySem PySem.W PyProof.Rows
namespace Mine
noncomputable def ltR (rank : Nat → Nat) (i j : Nat) : Bool := decide (rank i < rank j)
theorem arr_getD {p q : Array Nat} {i j : Nat} (h : p[i]? = q[j]?) : p.getD i 0 = q.getD j 0 := by
  rw [Array.getD_eq_getD_getElem?, Array.getD_eq_getD_getElem?, h]
set_option tactic.hygienic true in
theorem rev_get {p : Array Nat} {j : Nat} (hj : j ≤ p.size) (k : Nat) : (kas_rev p 0 j).getD k 0 = if k < j then p.getD (j - 1 - k) 0 else p.getD k 0 := by
  have h := getElem?_mirror_all (i := 0) hj k
  split
  · rename_i hk
    rw [if_pos ⟨Nat.zero_le _, hk⟩] at h
    exact arr_getD (h.trans (by rw [Nat.zero_add]))
  · rename_i hk
    rw [if_neg (fun e => hk e.2)] at h
    exact arr_getD h
theorem Prm.rev {p : Array Nat} {n i j : Nat} (h : Prm p n) : Prm (kas_rev p i j) n :=
  ⟨(mirror_size _ _ _ _).trans h.size, (Array.perm_iff_toList_perm.mp (mirror_perm _ _ _ _)).trans h.perm⟩
theorem Prm.bub {p : Array Nat} {n i j : Nat} (h : Prm p n) : Prm (bubble p i j) n :=
  ⟨(bubble_size _ _ _).trans h.size, (Array.perm_iff_toList_perm.mp (bubble_perm _ _ _)).trans h.perm⟩
theorem asc_s (lt : Nat → Nat → Bool) (p : Array Nat) (f n : Nat) : runT lt (kas_asc p (f + 1) n) = if lt (p.getD n 0) (p.getD (n - 1) 0) = true then n else runT lt (kas_asc p f (n + 1)) := by
  show runT lt (if lt (p.getD n 0) (p.getD (n - 1) 0) = true then KasT.ret n else kas_asc p f (n + 1)) = _
  split <;> rfl
theorem desc_s (lt : Nat → Nat → Bool) (p : Array Nat) (f n : Nat) : runT lt (kas_desc (f + 1) p n 0) = if lt (p.getD n 0) (p.getD (n - 1) 0) = true then runT lt (kas_desc f p (n + 1) 0) else if lt (p.getD (n - 1) 0) (p.getD n 0) = true then (p, n, 0) else runT lt (kas_desc f p (n + 1) 1) := by
  show runT lt (if lt (p.getD n 0) (p.getD (n - 1) 0) = true then (if 0 > 0 then kas_desc f (kas_rev p (n - (0 + 1)) n) (n + 1) 0 else kas_desc f p (n + 1) 0)
      else .ask (p.getD (n - 1) 0) (p.getD n 0) fun d => if d = true then .ret (p, n, 0) else kas_desc f p (n + 1) (0 + 1)) = _
  split
  · rfl
  · show runT lt (if lt (p.getD (n - 1) 0) (p.getD n 0) = true then KasT.ret (p, n, 0) else kas_desc f p (n + 1) (0 + 1)) = _
    split <;> rfl
theorem place_s (lt : Nat → Nat → Bool) (p : Array Nat) (k f l r : Nat) : runT lt (kas_place p k (f + 1) l r) = if l ≥ r then l else if lt (p.getD k 0) (p.getD ((l + r) / 2) 0) = true then runT lt (kas_place p k f l ((l + r) / 2)) else runT lt (kas_place p k f ((l + r) / 2 + 1) r) := by
  show runT lt (if l ≥ r then .ret l else .ask (p.getD k 0) (p.getD ((l + r) / 2) 0) fun c => if c = true then kas_place p k f l ((l + r) / 2) else kas_place p k f ((l + r) / 2 + 1) r) = _
  split
  · rfl
  · show runT lt (if lt (p.getD k 0) (p.getD ((l + r) / 2) 0) = true then kas_place p k f l ((l + r) / 2) else kas_place p k f ((l + r) / 2 + 1) r) = _
    split <;> rfl
section
variable {rank : Nat → Nat} {n : Nat}
theorem Prm.rk {p : Array Nat} (h : Prm p n) (hi : Inj rank n) {i j : Nat} (h1 : i < n) (h2 : j < n) (hij : i ≠ j) : rank (p.getD i 0) ≠ rank (p.getD j 0) := fun e =>
  h.ne h1 h2 hij (hi _ _ (h.lt h1) (h.lt h2) e)
theorem pred_lt' {i j : Nat} (h : i < j) : j - 1 < j := Nat.sub_lt (Nat.zero_lt_of_lt h) Nat.one_pos
theorem lt_pred' {i j : Nat} (h : i < j) (hne : i ≠ j - 1) : i < j - 1 := Nat.lt_of_le_of_ne (Nat.le_sub_one_of_lt h) hne
theorem SrtTo.step {p : Array Nat} {m : Nat} (h : SrtTo rank p m) (hm : 1 ≤ m) (hl : rank (p.getD (m - 1) 0) < rank (p.getD m 0)) : SrtTo rank p (m + 1) := fun i j hij hj => by
  by_cases hjm : j = m
  · subst hjm
    by_cases hi : i = j - 1
    · rw [hi]; exact hl
    · exact Nat.lt_trans (h i (j - 1) (lt_pred' hij hi) (pred_lt' hij)) hl
  · exact h i j hij (Nat.lt_of_le_of_ne (Nat.le_of_lt_succ hj) hjm)
theorem asc_spec {p : Array Nat} (hp : Prm p n) (hi : Inj rank n) : ∀ (f m : Nat), 1 ≤ m → m + f ≤ n → SrtTo rank p m → (let r := runT (ltR rank) (kas_asc p f m); m ≤ r ∧ r ≤ m + f ∧ SrtTo rank p r ∧ (r < m + f → rank (p.getD r 0) < rank (p.getD (r - 1) 0)))
  | 0, m, _, _, hs => ⟨Nat.le_refl _, Nat.le_refl _, hs, fun h => absurd h (Nat.lt_irrefl _)⟩
  | f + 1, m, h1, h2, hs => by
    rw [asc_s]
    by_cases hc : ltR rank (p.getD m 0) (p.getD (m - 1) 0) = true
    · rw [if_pos hc]
      exact ⟨Nat.le_refl _, Nat.le_add_right _ _, hs, fun _ => of_decide_eq_true hc⟩
    · rw [if_neg hc]
      have hne := hp.rk hi (i := m) (j := m - 1) (by lia) (by lia) (by lia)
      have hc' : ¬ rank (p.getD m 0) < rank (p.getD (m - 1) 0) := fun e => hc (decide_eq_true e)
      obtain ⟨a, b, c, d⟩ := asc_spec hp hi f (m + 1) (by lia) (by lia) (hs.step h1 (by lia))
      exact ⟨by lia, by lia, c, fun h => d (by lia)⟩
noncomputable def DscTo (rank : Nat → Nat) (p : Array Nat) (m : Nat) : Prop := ∀ i j, i < j → j < m → rank (p.getD j 0) < rank (p.getD i 0)
theorem desc_spec {p : Array Nat} (hp : Prm p n) (hi : Inj rank n) : ∀ (f m : Nat), 1 ≤ m → m + f ≤ n → DscTo rank p m → ∃ r, runT (ltR rank) (kas_desc f p m 0) = (p, r, 0) ∧ m ≤ r ∧ r ≤ m + f ∧ DscTo rank p r
  | 0, m, _, _, hs => ⟨m, rfl, Nat.le_refl _, Nat.le_refl _, hs⟩
  | f + 1, m, h1, h2, hs => by
    rw [desc_s]
    by_cases hc : ltR rank (p.getD m 0) (p.getD (m - 1) 0) = true
    · rw [if_pos hc]
      have hl : rank (p.getD m 0) < rank (p.getD (m - 1) 0) := of_decide_eq_true hc
      obtain ⟨r, a, b, c, d⟩ := desc_spec hp hi f (m + 1) (by lia) (by lia) (fun i j hij hj => by
        by_cases hjm : j = m
        · subst hjm
          by_cases h : i = j - 1
          · rw [h]; exact hl
          · exact Nat.lt_trans hl (hs i (j - 1) (lt_pred' hij h) (pred_lt' hij))
        · exact hs i j hij (Nat.lt_of_le_of_ne (Nat.le_of_lt_succ hj) hjm))
      exact ⟨r, a, by lia, by lia, d⟩
    · rw [if_neg hc]
      have hne := hp.rk hi (i := m) (j := m - 1) (by lia) (by lia) (by lia)
      have hc' : ¬ rank (p.getD m 0) < rank (p.getD (m - 1) 0) := fun e => hc (decide_eq_true e)
      rw [if_pos (show ltR rank (p.getD (m - 1) 0) (p.getD m 0) = true from decide_eq_true (by lia))]
      exact ⟨m, rfl, Nat.le_refl _, by lia, hs⟩
theorem DscTo.rev {p : Array Nat} {m : Nat} (h : DscTo rank p m) (hm : m ≤ p.size) : SrtTo rank (kas_rev p 0 m) m := fun i j hij hj => by
  rw [rev_get hm, rev_get hm, if_pos (Nat.lt_trans hij hj), if_pos hj]
  exact h _ _ (Nat.sub_lt_sub_left (Nat.lt_of_lt_of_le hij (Nat.le_sub_one_of_lt hj)) hij) (Nat.lt_of_le_of_lt (Nat.sub_le _ _) (pred_lt' hj))
theorem count_spec {p : Array Nat} (hp : Prm p n) (hi : Inj rank n) (h2 : 2 ≤ n) : (let r := runT (ltR rank) (kas_count n p); Prm r.2 n ∧ 1 ≤ r.1 ∧ r.1 ≤ n ∧ SrtTo rank r.2 r.1) := by
  unfold kas_count
  rw [runT_bind]
  obtain ⟨a, b, c, d⟩ := asc_spec hp hi (n - 1) 1 (Nat.le_refl _) (by lia) (fun i j hij hj => by lia)
  generalize runT (ltR rank) (kas_asc p (n - 1) 1) = m at *
  by_cases hmn : m = n
  · rw [if_pos (by simpa using hmn)]
    exact ⟨hp, a, by show m ≤ n; lia, c⟩
  · rw [if_neg (by simpa using hmn)]
    by_cases hm1 : m > 1
    · rw [if_pos hm1]
      have e : ltR rank (p.getD 0 0) (p.getD (m - 1) 0) = true := decide_eq_true (c 0 (m - 1) (by lia) (by lia))
      rw [show runT (ltR rank) (KasT.ask (p.getD 0 0) (p.getD (m - 1) 0) fun c => if c = true then KasT.ret (m, p) else kas_descPart m n (kas_rev p 0 m)) = (m, p) by
        show runT (ltR rank) (if ltR rank (p.getD 0 0) (p.getD (m - 1) 0) = true then KasT.ret (m, p) else kas_descPart m n (kas_rev p 0 m)) = _
        rw [if_pos e]; rfl]
      exact ⟨hp, a, by show m ≤ n; lia, c⟩
    · rw [if_neg hm1]
      obtain rfl : m = 1 := by lia
      have hd := d (by lia)
      unfold kas_descPart
      rw [runT_bind]
      obtain ⟨r, e1, e2, e3, e4⟩ := desc_spec hp hi (n - (1 + 1)) (1 + 1) (by lia) (by lia) (fun i j hij hj => by
        obtain rfl : j = 1 := by lia
        obtain rfl : i = 0 := by lia
        exact hd)
      rw [e1]
      dsimp only
      rw [if_neg (Nat.lt_irrefl 0)]
      unfold kas_tail3
      rw [runT_bind]
      have hs := hp.size
      obtain ⟨a', b', c', _⟩ := asc_spec (hp.rev (i := 0) (j := r)) hi (n - r) r (by lia) (by lia) (e4.rev (by lia))
      exact ⟨hp.rev, by show 1 ≤ runT (ltR rank) _; lia, by show runT (ltR rank) _ ≤ n; lia, c'⟩
theorem mid_is {l r : Nat} (h : l < r) : l ≤ (l + r) / 2 ∧ (l + r) / 2 < r := by lia
theorem place_spec {p : Array Nat} {k : Nat} (hp : Prm p n) (hi : Inj rank n) (hk : k < n) (hs : SrtTo rank p k) (f : Nat) : ∀ (l r : Nat), l ≤ r → r ≤ k → r - l ≤ f → (∀ i, i < l → rank (p.getD i 0) < rank (p.getD k 0)) → (∀ i, r ≤ i → i < k → rank (p.getD k 0) < rank (p.getD i 0)) →
    (let t := runT (ltR rank) (kas_place p k f l r); t ≤ k ∧ (∀ i, i < t → rank (p.getD i 0) < rank (p.getD k 0)) ∧ (∀ i, t ≤ i → i < k → rank (p.getD k 0) < rank (p.getD i 0))) := by
  induction f with
  | zero =>
    intro l r h1 h2 h3 hl hr
    obtain rfl : l = r := Nat.le_antisymm h1 (Nat.le_of_sub_eq_zero (Nat.le_zero.mp h3))
    exact ⟨h2, hl, hr⟩
  | succ f ih =>
    intro l r h1 h2 h3 hl hr
    rw [place_s]
    by_cases hlr : l ≥ r
    · rw [if_pos hlr]
      obtain rfl : l = r := Nat.le_antisymm h1 hlr
      exact ⟨h2, hl, hr⟩
    · rw [if_neg hlr]
      have hm := mid_is (Nat.lt_of_not_le hlr)
      generalize (l + r) / 2 = m at hm ⊢
      have hmk : m < k := Nat.lt_of_lt_of_le hm.2 h2
      by_cases hc : ltR rank (p.getD k 0) (p.getD m 0) = true
      · rw [if_pos hc]
        have hc' : rank (p.getD k 0) < rank (p.getD m 0) := of_decide_eq_true hc
        refine ih l m hm.1 (Nat.le_of_lt hmk) (by have := hm.2; clear hm hc hc'; lia) hl fun i h4 h5 => ?_
        by_cases he : i = m
        · rw [he]; exact hc'
        · exact Nat.lt_trans hc' (hs _ _ (Nat.lt_of_le_of_ne h4 (Ne.symm he)) h5)
      · rw [if_neg hc]
        have hc' : ¬ rank (p.getD k 0) < rank (p.getD m 0) := fun e => hc (decide_eq_true e)
        have hmk' : rank (p.getD m 0) < rank (p.getD k 0) := Nat.lt_of_le_of_ne (Nat.le_of_not_lt hc') (hp.rk hi (Nat.lt_trans hmk hk) hk (Nat.ne_of_lt hmk))
        refine ih (m + 1) r hm.2 h2 (by have := hm.1; clear hm hc hc'; lia) (fun i h4 => ?_) hr
        by_cases he : i = m
        · rw [he]; exact hmk'
        · exact Nat.lt_trans (hs i m (Nat.lt_of_le_of_ne (Nat.le_of_lt_succ h4) he) hmk) hmk'
theorem bub_get {p : Array Nat} {k t : Nat} (hk : k < p.size) (ht : t ≤ k) (j : Nat) : (bubble p k (k - t)).getD j 0 = if j = t then p.getD k 0 else if t < j ∧ j ≤ k then p.getD (j - 1) 0 else p.getD j 0 := by
  have h := getElem?_bubble hk (k - t) (by lia) j
  rw [show k - (k - t) = t by lia] at h
  by_cases e : j = t
  · rw [if_pos e] at h ⊢; exact arr_getD h
  · rw [if_neg e] at h ⊢
    by_cases e2 : t < j ∧ j ≤ k
    · rw [if_pos e2] at h ⊢; exact arr_getD h
    · rw [if_neg e2] at h ⊢; exact arr_getD h
theorem bin_spec (hi : Inj rank n) (f : Nat) : ∀ (p : Array Nat) (k : Nat), Prm p n → k + f = n → SrtTo rank p k → (let q := runT (ltR rank) (kas_bin f p k); Prm q n ∧ SrtTo rank q n) := by
  induction f with
  | zero =>
    intro p k hp hk hs
    obtain rfl : k = n := hk
    exact ⟨hp, hs⟩
  | succ f ih =>
    intro p k hp hk hs
    have hkn : k < n := hk ▸ Nat.lt_add_of_pos_right (Nat.succ_pos f)
    rw [show runT (ltR rank) (kas_bin (f + 1) p k) = runT (ltR rank) (kas_bin f (bubble p k (k - runT (ltR rank) (kas_place p k k 0 k))) (k + 1)) from runT_bind _ _ _]
    have Z := place_spec hp hi hkn hs k 0 k (Nat.zero_le _) (Nat.le_refl _) (Nat.sub_le _ _) (fun i h => absurd h (Nat.not_lt_zero _)) (fun i h4 h5 => absurd h4 (Nat.not_le_of_lt h5))
    generalize runT (ltR rank) (kas_place p k k 0 k) = t at Z ⊢
    have a : t ≤ k := Z.1
    have hsz : k < p.size := hp.size.symm ▸ hkn
    refine ih _ (k + 1) hp.bub (by rw [Nat.add_assoc, Nat.add_comm 1 f]; exact hk) fun i j hij hj => ?_
    have hjk : j ≤ k := Nat.le_of_lt_succ hj
    have hjp : j - 1 < k := Nat.lt_of_lt_of_le (pred_lt' hij) hjk
    rw [bub_get hsz a, bub_get hsz a]
    by_cases h1 : i = t
    · have htj : t < j := h1 ▸ hij
      rw [if_pos h1, if_neg (Nat.ne_of_gt htj), if_pos ⟨htj, hjk⟩]
      exact Z.2.2 _ (Nat.le_sub_one_of_lt htj) hjp
    · rw [if_neg h1]
      by_cases h2 : j = t
      · have hit : i < t := h2 ▸ hij
        rw [if_neg (fun e => Nat.lt_asymm e.1 hit), if_pos h2]; exact Z.2.1 _ hit
      · rw [if_neg h2]
        by_cases h3 : t < i ∧ i ≤ k
        · rw [if_pos h3, if_pos ⟨Nat.lt_trans h3.1 hij, hjk⟩]; exact hs _ _ (Nat.sub_lt_sub_right (Nat.zero_lt_of_lt h3.1) hij) hjp
        · rw [if_neg h3]
          by_cases h4 : t < j ∧ j ≤ k
          · rw [if_pos h4]
            exact hs _ _ (Nat.lt_of_lt_of_le (Nat.lt_of_le_of_ne (Nat.le_of_not_lt fun e => h3 ⟨e, Nat.le_trans (Nat.le_of_lt hij) hjk⟩) h1) (Nat.le_sub_one_of_lt h4.1)) hjp
          · rw [if_neg h4]; exact hs _ _ hij (Nat.lt_of_lt_of_le (Nat.lt_of_le_of_ne (Nat.le_of_not_lt fun e => h4 ⟨e, hjk⟩) h2) a)
theorem sort_spec (hi : Inj rank n) (h2 : 2 ≤ n) : Prm (runT (ltR rank) (kas_sort n)) n ∧ SrtTo rank (runT (ltR rank) (kas_sort n)) n := by
  have hp : Prm (List.toArray (List.range n)) n := ⟨by simp, by simp⟩
  unfold kas_sort
  rw [runT_bind]
  obtain ⟨a, b, c, d⟩ := count_spec hp hi h2
  generalize runT (ltR rank) (kas_count n (List.toArray (List.range n))) = r at *
  by_cases h : r.1 < n
  · rw [if_pos h]
    have e : max r.1 1 = r.1 := by lia
    rw [e]
    exact bin_spec hi (n - r.1) r.2 r.1 a (by lia) d
  · rw [if_neg h]
    have e : r.1 = n := by lia
    rw [e] at d
    exact ⟨a, d⟩
end
end Mine
end
section
set_option tactic.hygienic false
open PySem PySem.W PyProof.Rows
namespace Mine
structure SortIs (n : Nat) (lt : Nat → Nat → Bool) (p : List Nat) : Prop where
  go : ∀ (prog : Program) (w : World) (A : Around) (E : Value → Shared → Prop) (s : Shared) (vs : List Value), vs.length = n →
    (∀ i j (C : Bool → Shared → Prop), i < n → j < n → C (lt i j) s → kas_ask prog w A oneType' vs i j C s) →
    wpAny (model prog w) A (sortRuns'.run (kas_st oneType' (pairsOf vs) (List.toArray (List.range n)))) (fun r s' => s' = s ∧ (arrOf r.2).map (·.2) = List.toArray (p.map fun i => vs.getD i Value.none) ∧ failedOf r.2 = none) E s
  len : p.length = n
section
variable {prog : Program} {w : World} {A : Around} {E : Value → Shared → Prop} {s : Shared}
theorem list_sort_at {n e : Nat} {lt : Nat → Nat → Bool} {p : List Nat} {a : Addr} {vs : List Value} {P : PySem.Fin → Shared → Prop} (S : SortIs n lt p) (hn : vs.length = n) (h2 : 2 ≤ n) (hsz : n ≤ 1000) (ho : s.heap.get? a = some (seqObj "list" vs.toArray e))
    (hT : ∀ h', (∀ b o, b ≠ a → s.heap.get? b = some o → h'.get? b = some o) → ∀ v ∈ vs, Looks (model prog w) h' (typeOf v) (Value.type "list"))
    (hC : ∀ h', (∀ b o, b ≠ a → s.heap.get? b = some o → h'.get? b = some o) → ∀ i j (C : Bool → Shared → Prop), i < n → j < n → C (lt i j) { s with heap := h' } → kas_ask prog w A oneType' vs i j C { s with heap := h' })
    (k : ∀ h' c, (∀ b o, b ≠ a → s.heap.get? b = some o → h'.get? b = some o) → h'.get? a = some (seqObj "list" (List.toArray (p.map fun i => vs.getD i Value.none)) c) → P (.done (.ret .none)) { s with heap := h' }) :
    wpAny (model prog w) A (Builtin.«list.sort» ⟨[.ref a], []⟩) P E s := by
  have hln := S.len
  have ha : a < s.heap.objs.size := Heap.lt_size ho
  have s1 := Heap.SameBut.update s.heap a (Obj.mapSeq fun _ => (#[] : Array Value))
  obtain ⟨e1, ho1⟩ : ∃ e1, (s.heap.update a (Obj.mapSeq fun _ => (#[] : Array Value))).get? a = some (seqObj "list" #[] e1) := ⟨_, get?_update_seq ho fun _ => #[]⟩
  rw [list_sort_plain]
  refine wpAny_bind (listItems_at ho rfl ?_)
  refine wpAny_bind (listUpdate_at ho rfl ?_ (by rw [List.size_toArray, sizeLine_eq]; lia) (Nat.zero_le _))
  refine wpAny_bind (seqEpoch_at ho1 rfl ?_)
  refine wpAny_bind (wpAny_newTuple ?_ (by show vs.length ≤ _; rw [sizeLine_eq]; lia))
  refine wpAny_bind (wpAny_newList ?_ (Nat.zero_le _))
  refine wpAny_holding ?_
  show wpAny (model prog w) A _ P E { s with heap := ((s.heap.update a (Obj.mapSeq fun _ => (#[] : Array Value))).push (seqObj "tuple" vs.toArray 0)).push (seqObj "list" #[] 0) }
  generalize hh : ((s.heap.update a (Obj.mapSeq fun _ => (#[] : Array Value))).push (seqObj "tuple" vs.toArray 0)).push (seqObj "list" #[] 0) = h1
  have keep1 : ∀ b o, b ≠ a → s.heap.get? b = some o → h1.get? b = some o := fun b o hb e => by
    rw [← hh]
    exact Heap.get?_push_of_some _ (Heap.get?_push_of_some _ ((s1.2 b hb).trans e))
  have ho3 : h1.get? a = some (seqObj "list" #[] e1) := by
    rw [← hh]; exact Heap.get?_push_of_some _ (Heap.get?_push_of_some _ ho1)
  dsimp only
  have hn2 : ¬ vs.toArray.size < 2 := by rw [List.size_toArray]; lia
  rw [if_neg hn2, if_neg hn2]
  refine wpAny_bind (kas_kind (by lia) (hT h1 keep1) rfl rfl ?_)
  have est : SortSt.mk' oneType' (vs.toArray.zip vs.toArray) #[] 7 none = kas_st oneType' (pairsOf vs) (List.toArray (List.range n)) := by
    have e := kas_range (pairsOf vs)
    rw [pairsOf_size, hn] at e
    show SortSt.mk' oneType' (pairsOf vs) #[] 7 none = SortSt.mk' oneType' ((List.toArray (List.range n)).map (kas_item (pairsOf vs))) #[] 7 none
    rw [e]
  rw [est]
  refine wpAny_bind (wpAny_mono (S.go prog w A E { s with heap := h1 } vs hn (hC h1 keep1)) ?_ fun _ _ e => e)
  rintro ⟨⟨⟩, st'⟩ s' ⟨rfl, har, hf⟩
  dsimp only at har hf ⊢
  rw [har]
  have s2 := Heap.SameBut.update h1 a (Obj.mapSeq fun _ => List.toArray (p.map fun i => vs.getD i Value.none))
  obtain ⟨c2, hc2⟩ : ∃ c2, (h1.update a (Obj.mapSeq fun _ => List.toArray (p.map fun i => vs.getD i Value.none))).get? a = some (seqObj "list" (List.toArray (p.map fun i => vs.getD i Value.none)) c2) := ⟨_, get?_update_seq ho3 fun _ => List.toArray (p.map fun i => vs.getD i Value.none)⟩
  refine wpAny_bind (seqEpoch_at ho3 rfl ?_)
  refine wpAny_bind (listUpdate_at ho3 rfl ?_ (Nat.zero_le _) (by rw [List.size_toArray, List.length_map, sizeLine_eq]; lia))
  rw [hf]
  simp only [bne_self_eq_false, Bool.false_eq_true, if_false]
  exact wpAny_pure (k _ c2 (fun b o hb e => (s2.2 b hb).trans (keep1 b o hb e)) hc2)
theorem sorted_at {n : Nat} {lt : Nat → Nat → Bool} {p : List Nat} {l : Addr} {vs : List Value} {Q : Value → Shared → Prop} (S : SortIs n lt p) (hn : vs.length = n) (h2 : 2 ≤ n) (hsz : n ≤ 1000) (hl : s.heap.IsList l vs.toArray)
    (hT : ∀ h', (∀ b o, s.heap.get? b = some o → h'.get? b = some o) → ∀ v ∈ vs, Looks (model prog w) h' (typeOf v) (Value.type "list"))
    (hC : ∀ h', (∀ b o, s.heap.get? b = some o → h'.get? b = some o) → ∀ i j (C : Bool → Shared → Prop), i < n → j < n → C (lt i j) { s with heap := h' } → kas_ask prog w A.in1.in1 oneType' vs i j C { s with heap := h' })
    (k : ∀ h' D c, (∀ b o, s.heap.get? b = some o → h'.get? b = some o) → s.heap.get? D = none → h'.get? D = some (seqObj "list" (List.toArray (p.map fun i => vs.getD i Value.none)) c) → Q (.ref D) { s with heap := h' }) :
    wpAny (model prog w) A (call (.builtin "sorted") [.ref l]) Q E s := by
  refine Calls.call_function_entry kind_sorted plain_sorted entry_sorted (args_sorted1 _) ?_
  unfold Builtin.«sorted»
  refine wpAny_bind (m := checkCount "sorted" 1 1 _) (wpAny_pure ?_)
  refine wpAny_bind (collect_list hl ?_ (by rw [sizeLine_eq]; lia))
  refine wpAny_bind (wpAny_newList ?_ (by rw [sizeLine_eq]; lia))
  have hsz : ((s.heap.push (seqObj "list" #[] 0)).update s.heap.objs.size (Obj.mapSeq (· ++ vs.toArray))).objs.size = s.heap.objs.size + 1 := by
    rw [Heap.size_update, size_push']
  have hoL : (((s.heap.push (seqObj "list" #[] 0)).update s.heap.objs.size (Obj.mapSeq (· ++ vs.toArray))).push (seqObj "list" vs.toArray 0)).get? (s.heap.objs.size + 1) = some (seqObj "list" vs.toArray 0) := by
    rw [← hsz]; exact Heap.get?_push_size _ rfl
  have keep : ∀ b o, s.heap.get? b = some o → (((s.heap.push (seqObj "list" #[] 0)).update s.heap.objs.size (Obj.mapSeq (· ++ vs.toArray))).push (seqObj "list" vs.toArray 0)).get? b = some o := fun b o q => by
    have hlt : b < s.heap.objs.size := Heap.lt_size q
    rw [Heap.get?_push_ne _ _ _ (by rw [hsz]; exact Nat.ne_of_lt (Nat.lt_succ_of_lt hlt)), Heap.get?_update_ne _ _ _ _ (Nat.ne_of_lt hlt), Heap.get?_push_ne _ _ _ (Nat.ne_of_lt hlt)]
    exact q
  show wpAny _ _ _ _ _ { s with heap := ((s.heap.push (seqObj "list" #[] 0)).update s.heap.objs.size (Obj.mapSeq (· ++ vs.toArray))).push (seqObj "list" vs.toArray 0) }
  rw [hsz]
  generalize hh : ((s.heap.push (seqObj "list" #[] 0)).update s.heap.objs.size (Obj.mapSeq (· ++ vs.toArray))).push (seqObj "list" vs.toArray 0) = h1 at hoL keep ⊢
  have keep' : ∀ h' : Heap, (∀ b o, b ≠ s.heap.objs.size + 1 → h1.get? b = some o → h'.get? b = some o) → ∀ b o, s.heap.get? b = some o → h'.get? b = some o := fun h' hk b o e =>
    hk b o (Nat.ne_of_lt (Nat.lt_succ_of_lt (Heap.lt_size e))) (keep b o e)
  refine wpAny_bind (wpAny_holding (wpAny_call_entry slot_list_sort ⟨_, hoL, rfl⟩ entry_list_sort ?body (args_list_sort _)))
  case body =>
    exact list_sort_at (s := { s with heap := h1 }) S hn h2 (by lia) hoL (fun h' hk => hT h' (keep' h' hk)) (fun h' hk => hC h' (keep' h' hk)) fun h' c hk hD =>
      ⟨_, rfl, wpAny_pure ⟨_, rfl, k h' (s.heap.objs.size + 1) c (keep' h' hk) (Heap.get?_none_of_le (Nat.le_succ _)) hD⟩⟩
end
end Mine
end
section
set_option tactic.hygienic false
open PySem PySem.W PyProof.Rows
namespace Mine
noncomputable def labLt (L : List (List Nat)) (i j : Nat) : Bool := textsLt ((L.getD i []).map blanks) ((L.getD j []).map blanks)
theorem Rps.getD {N : Lg} {vs : List Value} {ds : List D} (h : Rps N vs ds) {k : Nat} {d : D} (e : ds[k]? = some d) : Rp N (vs.getD k Value.none) d := by
  obtain ⟨v, hv, r⟩ := h.get e
  rw [List.getD_eq_getElem?_getD, hv]; exact r
theorem Rps.perm {N : Lg} {vs : List Value} {L : List (List Nat)} (h : Rps N vs (L.map labD)) : ∀ (p : List Nat), (∀ i ∈ p, i < L.length) → Rps N (p.map fun i => vs.getD i Value.none) (p.map fun i => labD (L.getD i []))
  | [], _ => .nil
  | i :: p, hp => by
    have hi := hp i (.head _)
    refine .cons (h.getD ?_) (Rps.perm h p fun j hj => hp j (.tail _ hj))
    show (L.map labD)[i]? = some (labD (L.getD i []))
    rw [List.getElem?_map, List.getD_eq_getElem?_getD, List.getElem?_eq_getElem hi]; rfl
section
variable {G : Gs} {n : Nat} {sc : Scope} {cx : Cx}
theorem fn_sorted {L : List (List Nat)} {p : List Nat} (S : SortIs L.length (labLt L) p) (hp : ∀ i ∈ p, i < L.length) (h2 : 2 ≤ L.length) (hL : L.length ≤ 1000) : FnM G n (.builtin "sorted") [.list (L.map labD)] (p.map fun i => labD (L.getD i [])) := ⟨fun A s N vs rm ok hr => ⟨fun Q E k => by
  refine hr.e1 ?_; intro v h1; refine h1.eList ?_; intro l o ws e a1 a2 a3 a4
  have hlen : ws.length = L.length := by have := a4.length; rwa [List.length_map] at this
  have hold : ∀ h' : Heap, (∀ b o, s.heap.get? b = some o → h'.get? b = some o) → ∀ a o, N a o → h'.get? a = some o := fun h' hk a o e => hk _ _ (ok.hold _ _ e)
  have hget : ∀ {i : Nat}, i < L.length → Rp N (ws.getD i Value.none) (.list (((L.getD i []).map blanks).map .str)) := fun {i} hi => by
    refine a4.getD ?_
    rw [List.getElem?_map, List.getD_eq_getElem?_getD, List.getElem?_eq_getElem hi]
    simp [labD]
  refine sorted_at S hlen h2 hL ⟨_, ok.hold _ _ a1, a2, _, a3⟩ (fun h' hk v hv => ?_) (fun h' hk i j C hi hj hC => ?_) fun h' D c hk hD hDl => ?_
  · obtain ⟨i, hi, rfl⟩ := List.getElem_of_mem hv
    obtain ⟨d, hd, r⟩ := a4.get' (List.getElem?_eq_getElem hi)
    rw [List.getElem?_map] at hd
    obtain ⟨b, hb, rfl⟩ := Option.map_eq_some_iff.mp hd
    unfold labD at r
    generalize ws[i] = v at r
    cases r with | list b1 b2 b3 b4 => exact b2 ▸ (Looks.ld (hold h' hk _ _ b1)).andThen .now
  · unfold kas_ask
    refine keyLt_texts (N := N) ?_ (fun a o e => hold h' hk a o e) (hget hi) (hget hj) hC
    have := rm.units
    show A.units + 1 + 1 < cLine
    show A.units + 1 + 1 < 9900
    lia
  · have hno : ∀ o, ¬ N D o := fun o e => by have := ok.hold _ _ e; rw [hD] at this; cases this
    exact k D _ { s with heap := h' } N (Gr.keeps ok hk rfl rfl) hD hno ⟨_, hDl, ⟨rfl, rfl⟩, c, rfl⟩ (a4.perm p hp)⟩⟩
theorem Ev.and2 {l r : Expr} {p : Pos} {d : D} (hl : Ev G n sc cx l (.bool true)) (hr : Ev G n sc cx r d) : Ev G n sc cx (.BoolOp .And [l, r] p) d := by
  refine ⟨fun A env s N rm z => ⟨fun Q E k => ?_⟩⟩
  with_reducible refine wpAny_And2 ((hl.go A env s N rm z).go _ _ fun v s1 N1 g1 r1 => ?_)
  cases r1
  exact wpAny_truthy_bool ((hr.go A env s1 N1 rm (z.gr g1)).go _ _ fun v s2 N2 g2 r2 => k v s2 N2 (g1.trans g2) r2)
end
end Mine
end
section
set_option tactic.hygienic false
open PySem PySem.W PyProof.Rows
namespace Mine
noncomputable def InR {α : Type} (n : Nat) (P : α → Prop) : KasT α → Prop
  | .ret a => P a
  | .ask i j k => i < n ∧ j < n ∧ ∀ b, InR n P (k b)
theorem InR.bind {α β : Type} {n : Nat} {P : α → Prop} {Q : β → Prop} {f : α → KasT β} (hf : ∀ a, P a → InR n Q (f a)) : ∀ {t : KasT α}, InR n P t → InR n Q (t.bind f)
  | .ret a, h => hf a h
  | .ask i j k, h => ⟨h.1, h.2.1, fun b => InR.bind hf (h.2.2 b)⟩
theorem InR.mono {α : Type} {n : Nat} {P Q : α → Prop} (hq : ∀ a, P a → Q a) : ∀ {t : KasT α}, InR n P t → InR n Q t
  | .ret a, h => hq a h
  | .ask i j k, h => ⟨h.1, h.2.1, fun b => InR.mono hq (h.2.2 b)⟩
theorem InR.wp {α : Type} {n : Nat} {P : α → Prop} {cmp : Nat → Nat → (Bool → Shared → Prop) → Shared → Prop} {lt : Nat → Nat → Bool} {s : Shared} (hc : ∀ i j (C : Bool → Shared → Prop), i < n → j < n → C (lt i j) s → cmp i j C s) {Q : α → Shared → Prop} : ∀ {t : KasT α}, InR n P t → Q (runT lt t) s → t.kasWp cmp Q s
  | .ret _, _, h => h
  | .ask i j k, h, q => hc i j _ h.1 h.2.1 (InR.wp hc (h.2.2 (lt i j)) q)
theorem InR.run {α : Type} {n : Nat} {P : α → Prop} {lt : Nat → Nat → Bool} : ∀ {t : KasT α}, InR n P t → P (runT lt t)
  | .ret _, h => h
  | .ask i j k, h => show P (runT lt (k (lt i j))) from InR.run (n := n) (h.2.2 (lt i j))
structure Lts (p : Array Nat) (n : Nat) : Prop where
  size : p.size = n
  pos : 0 < n
  all : ∀ x ∈ p.toList, x < n
theorem Lts.get {p : Array Nat} {n : Nat} (h : Lts p n) (k : Nat) : p.getD k 0 < n := by
  rw [Array.getD_eq_getD_getElem?]
  cases e : p[k]? with
  | none => exact h.pos
  | some x => exact h.all x (by rw [← Array.getElem?_toList] at e; exact List.mem_of_getElem? e)
theorem Lts.perm {p q : Array Nat} {n : Nat} (h : Lts p n) (e : q.Perm p) : Lts q n :=
  ⟨e.size_eq.trans h.size, h.pos, fun x hx => h.all x ((Array.perm_iff_toList_perm.mp e).mem_iff.mp hx)⟩
theorem Lts.rev {p : Array Nat} {n i j : Nat} (h : Lts p n) : Lts (kas_rev p i j) n := h.perm (mirror_perm _ _ _ _)
theorem Lts.bub {p : Array Nat} {n i j : Nat} (h : Lts p n) : Lts (bubble p i j) n := h.perm (bubble_perm _ _ _)
theorem InR.ite {α : Type} {n : Nat} {P : α → Prop} {c : Prop} [Decidable c] {t u : KasT α} (h1 : InR n P t) (h2 : InR n P u) : InR n P (if c then t else u) := by
  split
  · exact h1
  · exact h2
section
variable {n : Nat}
theorem InR.rt {α : Type} {P : α → Prop} {a : α} (h : P a) : InR n P (.ret a) := h
theorem InR.ak {α : Type} {P : α → Prop} {i j : Nat} {k : Bool → KasT α} (hi : i < n) (hj : j < n) (h : ∀ b, InR n P (k b)) : InR n P (.ask i j k) := ⟨hi, hj, h⟩
theorem asc_in {p : Array Nat} (h : Lts p n) : ∀ (f m : Nat), InR n (fun _ => True) (kas_asc p f m)
  | 0, _ => trivial
  | f + 1, m => ⟨h.get _, h.get _, fun b => InR.ite trivial (asc_in h f (m + 1))⟩
theorem desc_in : ∀ (f : Nat) {p : Array Nat} (h : Lts p n) (m q : Nat), InR n (fun r => Lts r.1 n) (kas_desc f p m q)
  | 0, _, h, _, _ => h
  | f + 1, p, h, m, q => ⟨h.get _, h.get _, fun b => InR.ite (InR.ite (desc_in f h.rev _ _) (desc_in f h _ _)) ⟨h.get _, h.get _, fun b => InR.ite h (desc_in f h _ _)⟩⟩
theorem tail3_in {p : Array Nat} (h : Lts p n) (m nrem : Nat) : InR n (fun r => Lts r.2 n) (kas_tail3 m nrem p) := by
  unfold kas_tail3
  refine InR.bind (fun _ _ => ?_) (asc_in h.rev _ _)
  exact InR.rt (P := fun r : Nat × Array Nat => Lts r.2 n) h.rev
theorem descPart_in {p : Array Nat} (h : Lts p n) (m nrem : Nat) : InR n (fun r => Lts r.2 n) (kas_descPart m nrem p) := by
  unfold kas_descPart
  exact InR.bind (fun _ hr => InR.ite (tail3_in hr.rev _ _) (tail3_in hr _ _)) (desc_in _ h _ _)
theorem count_in {p : Array Nat} (h : Lts p n) (nrem : Nat) : InR n (fun r => Lts r.2 n) (kas_count nrem p) := by
  unfold kas_count
  refine InR.bind (fun m _ => InR.ite ?_ (InR.ite (InR.ak (h.get _) (h.get _) fun b => InR.ite ?_ (descPart_in h.rev _ _)) (descPart_in h _ _))) (asc_in h _ _)
  all_goals exact InR.rt (P := fun r : Nat × Array Nat => Lts r.2 n) h
theorem place_in {p : Array Nat} (h : Lts p n) (k : Nat) : ∀ (f l r : Nat), InR n (fun _ => True) (kas_place p k f l r)
  | 0, _, _ => trivial
  | f + 1, l, r => InR.ite trivial ⟨h.get _, h.get _, fun b => InR.ite (place_in h k f _ _) (place_in h k f _ _)⟩
theorem bin_in : ∀ (f : Nat) {p : Array Nat} (h : Lts p n) (k : Nat), InR n (fun r => Lts r n) (kas_bin f p k)
  | 0, _, h, _ => h
  | f + 1, _, h, k => InR.bind (fun _ _ => bin_in f h.bub (k + 1)) (place_in h k _ _ _)
theorem sort_in (h : 0 < n) : InR n (fun r => Lts r n) (kas_sort n) := by
  have h0 : Lts (List.toArray (List.range n)) n := ⟨by simp, h, fun x hx => by simpa using hx⟩
  unfold kas_sort
  exact InR.bind (fun _ hr => InR.ite (bin_in _ hr _) (InR.rt hr)) (count_in h0 n)
end
theorem SortIs.few {n : Nat} (lt : Nat → Nat → Bool) (h2 : 2 ≤ n) (h64 : n < 64) : SortIs n lt (runT lt (kas_sort n)).toList where
  go prog w A E s vs hn hc := by
    have ask : (kas_sort n).kasWp (kas_ask prog w A oneType' vs) (fun p s' => s' = s ∧ p = runT lt (kas_sort n)) s := (sort_in (by lia)).wp hc ⟨rfl, rfl⟩
    rw [kas_ask_eq] at ask
    refine kas_runs (E := E) (Q := fun _ st' s' => s' = s ∧ (arrOf st').map (·.2) = List.toArray ((runT lt (kas_sort n)).toList.map fun i => vs.getD i Value.none) ∧ failedOf st' = none) h2 h64 (fun p' st' s' a1 a2 a3 a4 => ⟨a4.1, ?_, a3⟩) ask
    rw [a2, ← a4.2]
    apply Array.toList_inj.mp
    rw [Array.map_map, Array.toList_map]
    exact List.map_congr_left fun i _ => by show (kas_item (pairsOf vs) i).2 = _; rw [kas_item_eq]
  len := by
    have := ((sort_in (n := n) (by lia)).run (lt := lt)).size
    rw [Array.length_toList]; exact this
end Mine
end
section
set_option tactic.hygienic false
open PySem PySem.W PyProof.Rows
namespace Mine
section
variable {M : Model} {A : Around} {E : Value → Shared → Prop} {s : Shared} {σ : Type}
theorem loop1 {β : Type} {a b : Nat} {c : β} {f : Nat → β → StateT σ Sem (ForInStep β)} {Q : β → σ → Prop} {st : σ} (h : a < b)
    (k : wpS M A E s (f a c) (fun r st' => match r with | .done c' => Q c' st' | .yield c' => wpS M A E s (forIn [a + 1:b] c' f) Q st') st) : wpS M A E s (forIn [a:b] c f) Q st := by
  have e : ∀ (a b : Nat) (c : β), (forIn [a:b] c f : StateT σ Sem β) = forIn (List.range' a (b - a)) c f := fun a b c => by
    rw [Std.Legacy.Range.forIn_eq_forIn_range']
    have hsz : ([a:b] : Std.Legacy.Range).size = b - a := by simp [Std.Legacy.Range.size]
    show forIn (List.range' a ([a:b] : Std.Legacy.Range).size 1) c f = _
    rw [hsz]
  rw [e]
  obtain ⟨m, hm⟩ : ∃ m, b - a = m + 1 := ⟨b - a - 1, by lia⟩
  rw [hm, List.range'_succ, List.forIn_cons]
  refine wpS_bind (wpS_mono k fun r st' h' => ?_)
  cases r with
  | done c' => exact wpS_pure h'
  | yield c' =>
    dsimp only at h' ⊢
    rw [e, show b - (a + 1) = m by lia] at h'
    exact h'
theorem loop0 {β : Type} {a b : Nat} {c : β} {f : Nat → β → StateT σ Sem (ForInStep β)} {Q : β → σ → Prop} {st : σ} (h : b ≤ a) (k : Q c st) : wpS M A E s (forIn [a:b] c f) Q st := by
  rw [Std.Legacy.Range.forIn_eq_forIn_range']
  have hsz : ([a:b] : Std.Legacy.Range).size = 0 := by simp [Std.Legacy.Range.size, h]
  show wpS M A E s (forIn (List.range' a ([a:b] : Std.Legacy.Range).size 1) c f) Q st
  rw [hsz]
  exact wpS_pure k
theorem wpS_lift' {α : Type} {m : Sem α} {Q : α → σ → Prop} {st : σ} (h : wpAny M A m (fun a s' => s' = s ∧ Q a st) E s) : wpS M A E s (liftM m : StateT σ Sem α) Q st := by
  unfold wpS
  show wpAny M A ((StateT.lift m : StateT σ Sem α).run st) _ E s
  rw [StateT.run_lift]
  exact wpAny_bind (wpAny_mono h (fun a s' h' => wpAny_pure h') fun _ _ e => e)
theorem wpS_rule {tag : String} {Q : Unit → σ → Prop} {st : σ} (h : Q () st) : wpS M A E s (liftM (rule tag) : StateT σ Sem Unit) Q st := wpS_lift' (wpAny_rule ⟨rfl, h⟩)
theorem wpS_set {a : σ} {Q : PUnit → σ → Prop} {st : σ} (h : Q ⟨⟩ a) : wpS M A E s (set a : StateT σ Sem PUnit) Q st := by
  unfold wpS; rw [StateT.run_set]; exact wpAny_pure ⟨rfl, h⟩
end
structure Cp (prog : Program) (w : World) (A : Around) (s : Shared) (f : Nat → Keyed) (lt : Nat → Nat → Bool) (n : Nat) : Prop where
  go : ∀ i j (Q : Bool → Shared → Prop), i < n → j < n → Q (lt i j) s → wpAny (model prog w) A (keyLt' oneType' (f i).1 (f j).1) Q (fun _ _ => False) s
noncomputable abbrev gst (f : Nat → Keyed) (p : Array Nat) (pd : Array (Nat × Nat × Nat)) : SortSt := SortSt.mk' oneType' (p.map f) pd 7 none
noncomputable def ltF (lt : Nat → Nat → Bool) (n : Nat) (p : Array Nat) (i j : Nat) : Option Bool := if p.getD i n < n then (if p.getD j n < n then some (lt (p.getD i n) (p.getD j n)) else none) else none
theorem get_lt {n : Nat} {p : Array Nat} {i : Nat} (h : p.getD i n < n) : p[i]? = some (p.getD i n) := by
  rw [Array.getD_eq_getD_getElem?] at h ⊢
  cases e : p[i]? with
  | none => rw [e] at h; exact absurd h (Nat.lt_irrefl _)
  | some x => rfl
theorem ltF_some {lt : Nat → Nat → Bool} {n : Nat} {p : Array Nat} {i j : Nat} {b : Bool} (h : ltF lt n p i j = some b) : ∃ x y, p[i]? = some x ∧ p[j]? = some y ∧ x < n ∧ y < n ∧ lt x y = b := by
  unfold ltF at h
  by_cases h1 : p.getD i n < n
  · rw [if_pos h1] at h
    by_cases h2 : p.getD j n < n
    · rw [if_pos h2] at h
      cases h
      exact ⟨_, _, get_lt h1, get_lt h2, h1, h2, rfl⟩
    · rw [if_neg h2] at h; cases h
  · rw [if_neg h1] at h; cases h
section
variable {prog : Program} {w : World} {A : Around} {E : Value → Shared → Prop} {s : Shared} {f : Nat → Keyed} {lt : Nat → Nat → Bool} {n : Nat} {p : Array Nat} {pd : Array (Nat × Nat × Nat)}
theorem lt_w (C : Cp prog w A s f lt n) {x y : Nat} {st : SortSt} {Q : Option Bool → SortSt → Prop} (hk : kindOf st = oneType') (hx : x < n) (hy : y < n) (h : Q (some (lt x y)) st) : wpS (model prog w) A E s (lt' (f x) (f y)) Q st := by
  rw [lt'_eq]
  refine wpS_bind (wpS_get ?_)
  rw [hk]
  refine wpS_bind (wpS_lift' (wpAny_attempt (wpAny_mono (C.go x y (fun b s' => s' = s ∧ b = lt x y) hx hy ⟨rfl, rfl⟩) (fun b s' hb => ⟨hb.1, ?_⟩) fun _ _ hF => hF.elim)))
  rw [hb.2]
  exact wpS_pure h
theorem el_w {i x : Nat} {st : SortSt} {Q : Keyed → SortSt → Prop} (hx : p[i]? = some x) (h : Q (f x) st) : wpS (model prog w) A E s (elem' (p.map f) i) Q st := by
  rw [elem'_eq, Array.getElem?_map, hx]
  exact wpS_pure h
theorem ltAt_w (C : Cp prog w A s f lt n) {i j : Nat} {b : Bool} {Q : Option Bool → SortSt → Prop} (hb : ltF lt n p i j = some b) (h : Q (some b) (gst f p pd)) : wpS (model prog w) A E s (ltAt' i j) Q (gst f p pd) := by
  obtain ⟨x, y, e1, e2, h1, h2, rfl⟩ := ltF_some hb
  rw [ltAt'_eq]
  refine wpS_bind (wpS_get ?_)
  exact wpS_bind (el_w e1 (wpS_bind (el_w e2 (lt_w C rfl h1 h2 h))))
theorem rev_w {i j : Nat} {Q : Unit → SortSt → Prop} (h : Q () (gst f (mirror p i j ((j - i) / 2)) pd)) : wpS (model prog w) A E s (reverseSlice' i j) Q (gst f p pd) := by
  rw [reverseSlice'_eq]
  refine wpS_modify ?_
  have e : mirror (p.map f) i j ((j - i) / 2) = (mirror p i j ((j - i) / 2)).map f := kas_swaps_map f (fun k => i + k) (fun k => j - 1 - k) _ p
  show Q () (SortSt.mk' oneType' (mirror (p.map f) i j ((j - i) / 2)) pd 7 none)
  rw [e]; exact h
theorem move_w {k l : Nat} {Q : Unit → SortSt → Prop} (h : Q () (gst f (bubble p k (k - l)) pd)) : wpS (model prog w) A E s (moveDown' k l) Q (gst f p pd) := by
  rw [moveDown'_eq]
  refine wpS_modify ?_
  have e : bubble (p.map f) k (k - l) = (bubble p k (k - l)).map f := kas_swaps_map f (fun i => k - i) (fun i => k - i - 1) _ p
  show Q () (SortSt.mk' oneType' (bubble (p.map f) k (k - l)) pd 7 none)
  rw [e]; exact h
end
noncomputable def plL (lt : Nat → Nat → Bool) (n : Nat) (srt : List Nat) (x : Nat) : Nat → Nat → Nat → Option Nat
  | 0, l, _ => some l
  | f + 1, l, r => if l ≥ r then some l else
    if srt.getD ((l + r) / 2) n < n then (if lt x (srt.getD ((l + r) / 2) n) then plL lt n srt x f l ((l + r) / 2) else plL lt n srt x f ((l + r) / 2 + 1) r) else none
noncomputable def biL (lt : Nat → Nat → Bool) (n : Nat) : List Nat → List Nat → Option (List Nat)
  | srt, [] => some srt
  | srt, x :: r => if x < n then (plL lt n srt x srt.length 0 srt.length).bind fun l => if l ≤ srt.length then biL lt n (srt.take l ++ x :: srt.drop l) r else none else none
theorem swap2 (pre : List Nat) (y x : Nat) (t : List Nat) : (pre ++ y :: x :: t).toArray.swapIfInBounds (pre.length + 1) pre.length = (pre ++ x :: y :: t).toArray := by
  have h1 : pre.length + 1 < (pre ++ y :: x :: t).toArray.size := by simp
  have h2 : pre.length < (pre ++ y :: x :: t).toArray.size := by simp
  rw [Array.swapIfInBounds, dif_pos h1, dif_pos h2, Array.swap_def]
  simp
theorem bub_core {x : Nat} {rest : List Nat} (e : List Nat) : ∀ pre : List Nat, bubble (pre ++ (e ++ x :: rest)).toArray (pre.length + e.length) e.length = (pre ++ x :: (e ++ rest)).toArray := by
  induction e with
  | nil => intro pre; rfl
  | cons y e ih =>
    intro pre
    have h := ih (pre ++ [y])
    rw [List.append_assoc, List.append_assoc, List.length_append] at h
    rw [List.length_cons, bubble_succ, Nat.add_comm e.length 1, ← Nat.add_assoc, Nat.add_sub_cancel]
    exact (congrArg (fun a => a.swapIfInBounds (pre.length + 1) (pre.length + 1 - 1)) h).trans (swap2 pre y x (e ++ rest))
theorem bub_list {pre srt rest : List Nat} {x l : Nat} (hl : l ≤ srt.length) :
    bubble (pre ++ srt ++ x :: rest).toArray (pre.length + srt.length) (pre.length + srt.length - (pre.length + l)) = (pre ++ (srt.take l ++ x :: srt.drop l) ++ rest).toArray := by
  obtain ⟨t, e, rfl, rfl⟩ : ∃ t e, srt = t ++ e ∧ l = t.length := ⟨srt.take l, srt.drop l, (List.take_append_drop ..).symm, by rw [List.length_take, Nat.min_eq_left hl]⟩
  rw [List.take_left, List.drop_left, Nat.add_sub_add_left, List.length_append, Nat.add_sub_cancel_left]
  have h := bub_core (x := x) (rest := rest) e (pre ++ t)
  rw [List.length_append, Nat.add_assoc] at h
  simpa only [List.append_assoc, List.cons_append] using h
section
variable {prog : Program} {w : World} {A : Around} {E : Value → Shared → Prop} {s : Shared} {f : Nat → Keyed} {lt : Nat → Nat → Bool} {n : Nat} {pd : Array (Nat × Nat × Nat)}
theorem wpS_ifp {α : Type} {c : Prop} [Decidable c] {x y : StateT SortSt Sem α} {st : SortSt} {Q : α → SortSt → Prop} (h : c) (k : wpS (model prog w) A E s x Q st) : wpS (model prog w) A E s (if c then x else y) Q st := by rw [if_pos h]; exact k
theorem wpS_ifn {α : Type} {c : Prop} [Decidable c] {x y : StateT SortSt Sem α} {st : SortSt} {Q : α → SortSt → Prop} (h : ¬ c) (k : wpS (model prog w) A E s y Q st) : wpS (model prog w) A E s (if c then x else y) Q st := by rw [if_neg h]; exact k
theorem for_pl {N : Nat} {F : Nat → Option Bool × Nat × Nat → StateT SortSt Sem (ForInStep (Option Bool × Nat × Nat))} {st : SortSt} {srt : List Nat} {x l' : Nat} {Q : Option Bool × Nat × Nat → SortSt → Prop}
    (step : ∀ y l t, t ≤ N → (l < t → srt.getD ((l + t) / 2) n < n) → wpS (model prog w) A E s (F y (none, l, t)) (fun q st' => st' = st ∧ q = if l ≥ t then .done (none, l, t) else if lt x (srt.getD ((l + t) / 2) n) = true then .yield (none, l, (l + t) / 2) else .yield (none, (l + t) / 2 + 1, t)) st)
    (fin : ∀ t, Q (none, l', t) st) (g : Nat) : ∀ (y l t : Nat), y + g = N → t ≤ N → plL lt n srt x g l t = some l' → wpS (model prog w) A E s (forIn [y:N] (none, l, t) F) Q st := by
  induction g with
  | zero =>
    intro y l t hy ht h
    rw [← Option.some.inj h] at fin
    exact loop0 (Nat.le_of_eq hy.symm) (fin t)
  | succ g ih =>
    intro y l t hy ht h
    have hyN : y < N := hy ▸ Nat.lt_add_of_pos_right (Nat.succ_pos g)
    have hy' : y + 1 + g = N := by rw [← hy, Nat.add_assoc, Nat.add_comm 1 g]
    rw [plL] at h
    by_cases hlr : l ≥ t
    · rw [if_pos hlr] at h
      rw [← Option.some.inj h] at fin
      refine loop1 hyN (wpS_mono (step y l t ht fun e => absurd hlr (Nat.not_le_of_lt e)) fun q st' hq => ?_)
      rw [hq.1, hq.2, if_pos hlr]; exact fin t
    · rw [if_neg hlr] at h
      by_cases hn : srt.getD ((l + t) / 2) n < n
      · rw [if_pos hn] at h
        refine loop1 hyN (wpS_mono (step y l t ht fun _ => hn) fun q st' hq => ?_)
        rw [hq.1, hq.2, if_neg hlr]
        by_cases hc : lt x (srt.getD ((l + t) / 2) n) = true
        · rw [if_pos hc] at h ⊢; exact ih (y + 1) l _ hy' (by have := mid_is (Nat.lt_of_not_le hlr); exact Nat.le_trans (Nat.le_of_lt this.2) ht) h
        · rw [if_neg hc] at h ⊢; exact ih (y + 1) _ t hy' ht h
      · rw [if_neg hn] at h; nomatch h
theorem for_bin {pre post out : List Nat} {m : Nat} {F : Nat → Option Bool × Unit → StateT SortSt Sem (ForInStep (Option Bool × Unit))} {Q : Option Bool × Unit → SortSt → Prop}
    (step : ∀ srt x r l', x < n → plL lt n srt x srt.length 0 srt.length = some l' → l' ≤ srt.length → wpS (model prog w) A E s (F srt.length (none, ())) (fun q st' => q = .yield (none, ()) ∧ st' = gst f (pre ++ (srt.take l' ++ x :: srt.drop l') ++ (r ++ post)).toArray pd) (gst f (pre ++ srt ++ (x :: r ++ post)).toArray pd))
    (fin : Q (none, ()) (gst f (pre ++ out ++ post).toArray pd)) (todo : List Nat) : ∀ (srt : List Nat) (ok : Nat), ok = srt.length → m = srt.length + todo.length → biL lt n srt todo = some out → wpS (model prog w) A E s (forIn [ok:m] (none, ()) F) Q (gst f (pre ++ srt ++ (todo ++ post)).toArray pd) := by
  induction todo with
  | nil =>
    intro srt ok hok hm h
    rw [Option.some.inj h]
    exact loop0 (by rw [hok, hm]; exact Nat.le_refl _) fin
  | cons x r ih =>
    intro srt ok hok hm h
    subst hok
    rw [biL] at h
    by_cases hx : x < n
    · rw [if_pos hx] at h
      have ⟨l', hl, hb⟩ := Option.bind_eq_some_iff.mp h
      by_cases hl' : l' ≤ srt.length
      · rw [if_pos hl'] at hb
        have e : (srt.take l' ++ x :: srt.drop l').length = srt.length + 1 := by
          rw [List.length_append, List.length_cons, ← Nat.add_assoc, ← List.length_append, List.take_append_drop]
        refine loop1 (by rw [hm, List.length_cons]; exact Nat.lt_add_of_pos_right (Nat.succ_pos _)) (wpS_mono (step srt x r l' hx hl hl') fun q st' hq => ?_)
        rw [hq.1, hq.2]
        exact ih _ _ e.symm (by rw [e, hm, List.length_cons, Nat.add_assoc, Nat.add_comm 1]) hb
      · rw [if_neg hl'] at hb; nomatch hb
    · rw [if_neg hx] at h; nomatch h
theorem bin_w (C : Cp prog w A s f lt n) {pre post srt todo out : List Nat} {lo m ok : Nat} {Q : Bool → SortSt → Prop} (hlo : lo = pre.length) (hok : ok = srt.length) (hm : m = srt.length + todo.length) (h1 : 1 ≤ ok) (hq : biL lt n srt todo = some out)
    (h : Q true (gst f (pre ++ out ++ post).toArray pd)) : wpS (model prog w) A E s (binarySort' lo m ok) Q (gst f (pre ++ srt ++ (todo ++ post)).toArray pd) := by
  rw [binarySort'_eq, Nat.max_eq_left h1, hlo]
  refine wpS_bind (for_bin ?step ?fin todo srt ok hok hm hq)
  case fin => exact wpS_pure h
  intro srt x r l' hx hl hl'
  refine wpS_bind (for_pl (N := srt.length) (l' := l') ?st2 ?fin2 srt.length 0 0 srt.length (Nat.zero_add _) (Nat.le_refl _) hl)
  case fin2 =>
    intro t
    refine wpS_bind (move_w (wpS_pure ⟨rfl, ?_⟩))
    rw [List.cons_append, bub_list hl']
  intro y l t ht hn
  by_cases hlr : l ≥ t
  · exact wpS_ifp hlr (wpS_pure ⟨rfl, (if_pos hlr).symm⟩)
  · have hlt := Nat.lt_of_not_le hlr
    have hm := Nat.lt_of_lt_of_le (mid_is hlt).2 ht
    have hb1 : ltF lt n (pre ++ srt ++ (x :: r ++ post)).toArray (pre.length + srt.length) (pre.length + (l + t) / 2) = some (lt x (srt.getD ((l + t) / 2) n)) := by
      have gx : (pre ++ srt ++ (x :: r ++ post)).toArray[pre.length + srt.length]? = some x := by
        rw [List.getElem?_toArray, ← List.length_append, List.getElem?_append_right (Nat.le_refl _), Nat.sub_self]; rfl
      have gy : (pre ++ srt ++ (x :: r ++ post)).toArray[pre.length + (l + t) / 2]? = some (srt.getD ((l + t) / 2) n) := by
        rw [List.getElem?_toArray, List.append_assoc, List.getElem?_append_right (Nat.le_add_right _ _), Nat.add_sub_cancel_left, List.getElem?_append_left hm, List.getD_eq_getElem?_getD, List.getElem?_eq_getElem hm]; rfl
      unfold ltF
      rw [Array.getD_eq_getD_getElem?, Array.getD_eq_getD_getElem?, gx, gy]
      exact (if_pos hx).trans (if_pos (hn hlt))
    refine wpS_ifn hlr (wpS_bind (ltAt_w C hb1 ?_))
    by_cases hc : lt x (srt.getD ((l + t) / 2) n) = true
    · exact wpS_ifp hc (wpS_pure ⟨rfl, by rw [if_neg hlr, if_pos hc]⟩)
    · exact wpS_ifn hc (wpS_pure ⟨rfl, by rw [if_neg hlr, if_neg hc]⟩)
end
end Mine
end
section
set_option tactic.hygienic false
open PySem PySem.W PyProof.Rows
namespace Mine
noncomputable def rk81 (n : Nat) : Nat := (n % 3) * 27 + (n / 3 % 3) * 9 + (n / 9 % 3) * 3 + n / 27 % 3
noncomputable def lt81 (i j : Nat) : Bool := decide (rk81 i < rk81 j)
noncomputable def gallop' : Bool → Keyed → Array Keyed → Nat → Nat → Nat → StateT SortSt Sem (Option Nat) := sortPriv% PySem.Builtin.gallop
noncomputable def mergeHi' : Array Keyed → Array Keyed → StateT SortSt Sem (Array Keyed) := sortPriv% PySem.Builtin.mergeHi
noncomputable def s1 : List Nat := [0, 27, 9, 36, 18, 3, 30, 12, 39, 21, 6, 33, 15, 24, 1, 28, 10, 37, 19, 4, 31, 13, 40, 22, 7, 34, 16, 25, 2, 29, 11, 38, 20, 5, 32, 14, 23, 8, 35, 17, 26]
noncomputable def s2 : List Nat := [54, 63, 45, 72, 57, 66, 48, 75, 60, 42, 69, 51, 78, 55, 64, 46, 73, 58, 67, 49, 76, 61, 43, 70, 52, 79, 56, 65, 47, 74, 59, 41, 68, 50, 77, 62, 44, 71, 53, 80]
theorem s1_is : biL lt81 81 [0, 1, 2] (List.range' 3 38) = some s1 := by decide +kernel
theorem s2_is : biL lt81 81 [42, 41] (List.range' 43 38) = some s2 := by decide +kernel
noncomputable def l0 : List Nat := List.range 81
noncomputable def l1 : List Nat := s1 ++ List.range' 41 40
noncomputable def l2 : List Nat := s1 ++ [42, 41] ++ List.range' 43 38
noncomputable def l3 : List Nat := s1 ++ s2
theorem l0_is : l0 = [] ++ [0, 1, 2] ++ (List.range' 3 38 ++ List.range' 41 40) := by decide +kernel
theorem l1_is : l1 = [] ++ s1 ++ List.range' 41 40 := rfl
theorem l2_is : l2 = s1 ++ [42, 41] ++ (List.range' 43 38 ++ []) := by decide +kernel
theorem l3_is : l3 = s1 ++ s2 ++ [] := by decide +kernel
theorem l2_rev : mirror l1.toArray 41 43 ((43 - 41) / 2) = l2.toArray := by decide +kernel
section
variable {prog : Program} {w : World} {A : Around} {E : Value → Shared → Prop} {s : Shared} {f : Nat → Keyed} {pd : Array (Nat × Nat × Nat)}
set_option maxRecDepth 10000
theorem count1_w (C : Cp prog w A s f lt81 81) {Q : Option Nat → SortSt → Prop} (h : Q (some 3) (gst f l0.toArray pd)) : wpS (model prog w) A E s (countRun' 0 81) Q (gst f l0.toArray pd) := by
  rw [countRun'_eq]
  dsimp only
  refine wpS_bind (loop1 (by decide) (wpS_bind (ltAt_w (b := false) C (by decide +kernel) (wpS_pure ?_))))
  refine loop1 (by decide) (wpS_bind (ltAt_w (b := false) C (by decide +kernel) (wpS_pure ?_)))
  refine loop1 (by decide) (wpS_bind (ltAt_w (b := true) C (by decide +kernel) (wpS_pure ?_)))
  exact wpS_bind (ltAt_w (b := true) C (by decide +kernel) (wpS_pure h))
theorem bin1_w (C : Cp prog w A s f lt81 81) {Q : Bool → SortSt → Prop} (h : Q true (gst f l1.toArray pd)) : wpS (model prog w) A E s (binarySort' 0 41 3) Q (gst f l0.toArray pd) := by
  rw [l0_is]
  exact bin_w C rfl rfl rfl (by decide) s1_is (by rw [← l1_is]; exact h)
theorem count2_w (C : Cp prog w A s f lt81 81) {Q : Option Nat → SortSt → Prop} (h : Q (some 2) (gst f l2.toArray pd)) : wpS (model prog w) A E s (countRun' 41 40) Q (gst f l1.toArray pd) := by
  rw [countRun'_eq]
  dsimp only
  refine wpS_bind (loop1 (by decide) (wpS_bind (ltAt_w (b := true) C (by decide +kernel) (wpS_pure ?_))))
  refine wpS_bind (wpS_rule ?_)
  refine wpS_bind (loop1 (by decide) (wpS_bind (ltAt_w (b := false) C (by decide +kernel) ?_)))
  refine wpS_bind (ltAt_w (b := true) C (by decide +kernel) (wpS_pure ?_))
  refine wpS_bind (rev_w (i := 41) (j := 43) ?_)
  rw [l2_rev]
  refine wpS_bind (loop1 (by decide) (wpS_bind (ltAt_w (b := true) C (by decide +kernel) (wpS_pure ?_))))
  exact wpS_pure h
theorem bin2_w (C : Cp prog w A s f lt81 81) {Q : Bool → SortSt → Prop} (h : Q true (gst f l3.toArray pd)) : wpS (model prog w) A E s (binarySort' 41 40 2) Q (gst f l2.toArray pd) := by
  rw [l2_is]
  exact bin_w C rfl rfl rfl (by decide) s2_is (by rw [← l3_is]; exact h)
theorem lt_b {lt : Nat → Nat → Bool} {n : Nat} (C : Cp prog w A s f lt n) {x y : Nat} {b : Bool} {st : SortSt} {Q : Option Bool → SortSt → Prop} (hk : kindOf st = oneType') (hb : (decide (x < n) && decide (y < n) && lt x y == b) = true) (h : Q (some b) st) : wpS (model prog w) A E s (lt' (f x) (f y)) Q st := by
  simp only [Bool.and_eq_true, decide_eq_true_eq, beq_iff_eq] at hb
  exact lt_w C hk hb.1.1 hb.1.2 (hb.2 ▸ h)
theorem gal1_w (C : Cp prog w A s f lt81 81) {st : SortSt} (hk : kindOf st = oneType') {Q : Option Nat → SortSt → Prop} (h : Q (some 2) st) : wpS (model prog w) A E s (gallop' false (f 54) (l3.toArray.map f) 0 41 0) Q st := by
  refine wpS_bind (wpS_bind (el_w (x := 0) (by decide +kernel) (wpS_bind (lt_b (b := false) C hk (by decide +kernel) (wpS_pure ?_)))))
  refine wpS_bind (loop1 (by decide) ?_)
  refine wpS_bind (wpS_bind (el_w (x := 27) (by decide +kernel) (wpS_bind (lt_b (b := false) C hk (by decide +kernel) (wpS_pure (wpS_pure ?_))))))
  refine loop1 (by decide) (wpS_bind (wpS_bind (el_w (x := 36) (by decide +kernel) (wpS_bind (lt_b (b := true) C hk (by decide +kernel) (wpS_pure (wpS_pure ?_)))))))
  refine wpS_bind (loop1 (by decide) (wpS_bind (wpS_bind (el_w (x := 9) (by decide +kernel) (wpS_bind (lt_b (b := true) C hk (by decide +kernel) (wpS_pure (wpS_pure ?_)))))))) 
  refine loop1 (by decide) (wpS_pure ?_)
  exact wpS_pure h
theorem gal2_w (C : Cp prog w A s f lt81 81) {st : SortSt} (hk : kindOf st = oneType') {Q : Option Nat → SortSt → Prop} (h : Q (some 38) st) : wpS (model prog w) A E s (gallop' true (f 26) (l3.toArray.map f) 41 40 39) Q st := by
  refine wpS_bind (wpS_bind (el_w (x := 80) (by decide +kernel) (lt_b (b := false) C hk (by decide +kernel) ?_)))
  refine wpS_bind (loop1 (by decide) ?_)
  refine wpS_bind (wpS_bind (el_w (x := 53) (by decide +kernel) (lt_b (b := false) C hk (by decide +kernel) (wpS_pure ?_))))
  refine loop1 (by decide) (wpS_bind (wpS_bind (el_w (x := 44) (by decide +kernel) (lt_b (b := true) C hk (by decide +kernel) (wpS_pure ?_)))))
  refine wpS_bind (loop1 (by decide) (wpS_bind (wpS_bind (el_w (x := 71) (by decide +kernel) (lt_b (b := true) C hk (by decide +kernel) (wpS_pure ?_))))))
  refine loop1 (by decide) (wpS_pure ?_)
  exact wpS_pure h
end
noncomputable def hiL (lt : Nat → Nat → Bool) (n : Nat) (a b : List Nat) : Nat → Nat → Nat → List Nat → Nat → Nat → Option (List Nat)
  | 0, _, _, _, _, _ => none
  | g + 1, na, nb, out, ac, bc =>
    if b.getD (nb - 1) n < n then (if a.getD (na - 1) n < n then
      (if lt (b.getD (nb - 1) n) (a.getD (na - 1) n) then
        (if na - 1 = 0 then some (b.take nb ++ (a.getD (na - 1) n :: out)) else if ac + 1 ≥ 7 then none else hiL lt n a b g (na - 1) nb (a.getD (na - 1) n :: out) (ac + 1) 0)
      else (if nb - 1 = 1 then some (b.take 1 ++ a.take na ++ (b.getD (nb - 1) n :: out)) else if bc + 1 ≥ 7 then none else hiL lt n a b g na (nb - 1) (b.getD (nb - 1) n :: out) 0 (bc + 1)))
    else none) else none
theorem get_list {n : Nat} {l : List Nat} {i : Nat} (h : l.getD i n < n) : l.toArray[i]? = some (l.getD i n) := by
  rw [List.getElem?_toArray]
  rw [List.getD_eq_getElem?_getD] at h ⊢
  cases e : l[i]? with
  | none => rw [e] at h; exact absurd h (Nat.lt_irrefl _)
  | some x => rfl
section
variable {prog : Program} {w : World} {A : Around} {E : Value → Shared → Prop} {s : Shared} {f : Nat → Keyed} {lt : Nat → Nat → Bool} {n : Nat}
theorem push_out (out : List Nat) (x : Nat) : ((out.reverse.map f).toArray.push (f x)) = ((x :: out).reverse.map f).toArray := by simp
theorem ext_out (l : List Nat) (k : Nat) : (l.toArray.map f).extract 0 k = ((l.take k).map f).toArray := by
  simp
theorem hiL_step {a b : List Nat} {g na nb ac bc : Nat} {out r : List Nat} (he : hiL lt n a b (g + 1) na nb out ac bc = some r) : b.getD (nb - 1) n < n ∧ a.getD (na - 1) n < n ∧
    (lt (b.getD (nb - 1) n) (a.getD (na - 1) n) = true → (na - 1 = 0 → r = b.take nb ++ (a.getD (na - 1) n :: out)) ∧ (na - 1 ≠ 0 → ac + 1 < 7 ∧ hiL lt n a b g (na - 1) nb (a.getD (na - 1) n :: out) (ac + 1) 0 = some r)) ∧
    (¬ lt (b.getD (nb - 1) n) (a.getD (na - 1) n) = true → (nb - 1 = 1 → r = b.take 1 ++ a.take na ++ (b.getD (nb - 1) n :: out)) ∧ (nb - 1 ≠ 1 → bc + 1 < 7 ∧ hiL lt n a b g na (nb - 1) (b.getD (nb - 1) n :: out) 0 (bc + 1) = some r)) := by
  rw [hiL] at he
  generalize b.getD (nb - 1) n = y at he ⊢
  generalize a.getD (na - 1) n = x at he ⊢
  by_cases h1 : y < n
  · rw [if_pos h1] at he
    by_cases h2 : x < n
    · rw [if_pos h2] at he
      refine ⟨h1, h2, fun hc => ?_, fun hc => ?_⟩
      · rw [if_pos hc] at he
        refine ⟨fun h3 => ?_, fun h3 => ?_⟩
        · rw [if_pos h3] at he; exact (Option.some.inj he).symm
        · rw [if_neg h3] at he
          by_cases h4 : ac + 1 ≥ 7
          · rw [if_pos h4] at he; nomatch he
          · rw [if_neg h4] at he; exact ⟨Nat.lt_of_not_le h4, he⟩
      · rw [if_neg hc] at he
        refine ⟨fun h3 => ?_, fun h3 => ?_⟩
        · rw [if_pos h3] at he; exact (Option.some.inj he).symm
        · rw [if_neg h3] at he
          by_cases h4 : bc + 1 ≥ 7
          · rw [if_pos h4] at he; nomatch he
          · rw [if_neg h4] at he; exact ⟨Nat.lt_of_not_le h4, he⟩
    · rw [if_neg h2] at he; nomatch he
  · rw [if_neg h1] at he; nomatch he
noncomputable def hiSt (f : Nat → Keyed) (na nb : Nat) (out : List Nat) (ac bc : Nat) : Option (Array Keyed) × Nat × Nat × Array Keyed × Nat × Nat := (none, na, nb, (out.reverse.map f).toArray, ac, bc)
theorem for_hi {a b r : List Nat} {st : SortSt} {N : Nat} {F : Nat → Option (Array Keyed) × Nat × Nat × Array Keyed × Nat × Nat → StateT SortSt Sem (ForInStep (Option (Array Keyed) × Nat × Nat × Array Keyed × Nat × Nat))} {Q : Option (Array Keyed) × Nat × Nat × Array Keyed × Nat × Nat → SortSt → Prop}
    (step : ∀ g i na nb out ac bc, hiL lt n a b (g + 1) na nb out ac bc = some r → wpS (model prog w) A E s (F i (hiSt f na nb out ac bc)) (fun q st' => st' = st ∧ ((∃ c, q = .done (some (r.map f).toArray, c)) ∨ ∃ na nb out ac bc, q = .yield (hiSt f na nb out ac bc) ∧ hiL lt n a b g na nb out ac bc = some r)) st)
    (fin : ∀ c, Q (some (r.map f).toArray, c) st) {na nb : Nat} {out : List Nat} {ac bc : Nat} (h : hiL lt n a b N na nb out ac bc = some r) : wpS (model prog w) A E s (forIn [0:N] (hiSt f na nb out ac bc) F) Q st := by
  refine wpS_forRange (I := fun i c st' => st' = st ∧ ∃ na nb out ac bc, c = hiSt f na nb out ac bc ∧ hiL lt n a b (N - i) na nb out ac bc = some r) (fun i c st' _ hi hI => ?_) (fun c st' hI => ?_) ⟨rfl, na, nb, out, ac, bc, rfl, h⟩
  · obtain ⟨rfl, na, nb, out, ac, bc, rfl, he⟩ := hI
    rw [show N - i = (N - (i + 1)) + 1 from (Nat.succ_pred_eq_of_pos (Nat.sub_pos_of_lt hi)).symm] at he
    refine wpS_mono (step _ i na nb out ac bc he) fun q st' hq => ?_
    obtain ⟨rfl, ⟨c, rfl⟩ | ⟨na, nb, out, ac, bc, rfl, he⟩⟩ := hq
    · exact fin c
    · exact ⟨rfl, na, nb, out, ac, bc, rfl, he⟩
  · obtain ⟨_, na, nb, out, ac, bc, _, he⟩ := hI
    rw [Nat.zero_max, Nat.sub_self] at he
    nomatch he
theorem hiSt_push (na nb : Nat) (out : List Nat) (x ac bc : Nat) : ((none, na, nb, (out.reverse.map f).toArray.push (f x), ac, bc) : Option (Array Keyed) × Nat × Nat × Array Keyed × Nat × Nat) = hiSt f na nb (x :: out) ac bc := by rw [hiSt, ← push_out]
theorem hi_w (C : Cp prog w A s f lt n) {a b : List Nat} {st : SortSt} (hk : kindOf st = oneType') (hg : gallopOf st = 7) (ha : 2 ≤ a.length) (hb : 2 ≤ b.length) {r : List Nat} {z : Nat} (hz : a.toArray[a.length - 1]? = some z)
    (hq : hiL lt n a b (a.length + b.length) (a.length - 1) b.length [z] 0 0 = some r) {Q : Array Keyed → SortSt → Prop} (h : Q (r.map f).toArray st) : wpS (model prog w) A E s (mergeHi' (a.toArray.map f) (b.toArray.map f)) Q st := by
  have sa : (a.toArray.map f).size = a.length := by rw [Array.size_map, List.size_toArray]
  have sb : (b.toArray.map f).size = b.length := by rw [Array.size_map, List.size_toArray]
  refine wpS_bind (wpS_rule ?_)
  dsimp only
  rw [sa, sb]
  refine wpS_bind (el_w hz ?_)
  refine wpS_ifn (by simp; lia) (wpS_ifn (by simp; lia) ?_)
  refine wpS_bind (wpS_get ?_)
  refine wpS_bind (loop1 (by lia) (wpS_bind ?_))
  refine for_hi (lt := lt) (n := n) (out := [z]) ?step ?fin hq
  case fin => exact fun c => wpS_pure (wpS_pure h)
  intro g i na nb out ac bc he
  have H := hiL_step he
  refine wpS_bind (el_w (get_list H.1) (wpS_bind (el_w (get_list H.2.1) (wpS_bind (lt_w C hk H.1 H.2.1 ?_)))))
  by_cases hc : lt (b.getD (nb - 1) n) (a.getD (na - 1) n) = true
  · have K := H.2.2.1 hc
    refine wpS_ifp hc (wpS_bind (el_w (get_list H.2.1) ?_))
    by_cases h3 : na - 1 = 0
    · refine wpS_ifp (show (na - 1 == 0) = true from beq_iff_eq.mpr h3) (wpS_pure ⟨rfl, .inl ⟨_, congrArg (fun x => ForInStep.done (some x, _)) ?_⟩⟩)
      show (a.toArray.map f).extract 0 (na - 1) ++ (b.toArray.map f).extract 0 nb ++ ((out.reverse.map f).toArray.push (f (a.getD (na - 1) n))).reverse = _
      rw [K.1 h3]
      rw [push_out, h3, ext_out, ext_out]
      simp
    · refine wpS_ifn (show ¬ (na - 1 == 0) = true from fun e => h3 (beq_iff_eq.mp e)) (wpS_ifn (show ¬ gallopOf st ≤ ac + 1 by rw [hg]; exact Nat.not_le_of_lt (K.2 h3).1) (wpS_pure ⟨rfl, .inr ⟨_, _, _, _, _, ?_, (K.2 h3).2⟩⟩))
      exact congrArg ForInStep.yield (hiSt_push _ _ _ _ _ _)
  · have K := H.2.2.2 hc
    refine wpS_ifn hc (wpS_bind (el_w (get_list H.1) ?_))
    by_cases h3 : nb - 1 = 1
    · refine wpS_ifp (show (nb - 1 == 1) = true from beq_iff_eq.mpr h3) (wpS_pure ⟨rfl, .inl ⟨_, congrArg (fun x => ForInStep.done (some x, _)) ?_⟩⟩)
      show (b.toArray.map f).extract 0 (nb - 1) ++ (a.toArray.map f).extract 0 na ++ ((out.reverse.map f).toArray.push (f (b.getD (nb - 1) n))).reverse = _
      rw [K.1 h3]
      rw [push_out, h3, ext_out, ext_out]
      simp
    · refine wpS_ifn (show ¬ (nb - 1 == 1) = true from fun e => h3 (beq_iff_eq.mp e)) (wpS_ifn (show ¬ gallopOf st ≤ bc + 1 by rw [hg]; exact Nat.not_le_of_lt (K.2 h3).1) (wpS_pure ⟨rfl, .inr ⟨_, _, _, _, _, ?_, (K.2 h3).2⟩⟩))
      exact congrArg ForInStep.yield (hiSt_push _ _ _ _ _ _)
end
theorem put_list {α : Type} {sa : Nat} : ∀ (m mid pre post : List α) (k : Nat), mid.length = m.length → pre.length = sa + k → (m.zipIdx k).foldl (fun (a : Array α) (x : α × Nat) => a.setIfInBounds (sa + x.2) x.1) (pre ++ (mid ++ post)).toArray = (pre ++ (m ++ post)).toArray
  | [], mid, pre, post, k, h, _ => by
    have : mid = [] := List.eq_nil_of_length_eq_zero h
    subst this; rfl
  | x :: m, [], pre, post, k, h, _ => by simp at h
  | x :: m, y :: mid, pre, post, k, h, hp => by
    rw [List.zipIdx_cons, List.foldl_cons]
    have e : (pre ++ (y :: mid ++ post)).toArray.setIfInBounds (sa + k) x = (pre ++ [x] ++ (mid ++ post)).toArray := by
      rw [List.setIfInBounds_toArray, ← hp, List.set_append_right _ _ (Nat.le_refl _), Nat.sub_self]
      simp
    dsimp only
    rw [e, put_list m mid (pre ++ [x]) post (k + 1) (by simpa using h) (by simp; lia)]
    simp
noncomputable def a81 : List Nat := s1.drop 2
noncomputable def b81 : List Nat := s2.take 38
noncomputable def r81 : List Nat := [54, 9, 36, 63, 18, 45, 72, 3, 30, 57, 12, 39, 66, 21, 48, 75, 6, 33, 60, 15, 42, 69, 24, 51, 78, 1, 28, 55, 10, 37, 64, 19, 46, 73, 4, 31, 58, 13, 40, 67, 22, 49, 76, 7, 34, 61, 16, 43, 70, 25, 52, 79, 2, 29, 56, 11, 38, 65, 20, 47, 74, 5, 32, 59, 14, 41, 68, 23, 50, 77, 8, 35, 62, 17, 44, 71, 26]
theorem r81_is : hiL lt81 81 a81 b81 77 38 38 [26] 0 0 = some r81 := by decide +kernel
noncomputable def l4 : List Nat := s1.take 2 ++ (r81 ++ s2.drop 38)
theorem a81_is : l3.toArray.extract (0 + 2) 41 = a81.toArray := by decide +kernel
theorem b81_is : l3.toArray.extract 41 (41 + 38) = b81.toArray := by decide +kernel
theorem l3_cut : l3 = s1.take 2 ++ (s1.drop 2 ++ s2.take 38 ++ s2.drop 38) := by decide +kernel
section
variable {prog : Program} {w : World} {A : Around} {E : Value → Shared → Prop} {s : Shared} {f : Nat → Keyed} {pd : Array (Nat × Nat × Nat)}
set_option maxRecDepth 10000
theorem merge_w (C : Cp prog w A s f lt81 81) {Q : Bool → SortSt → Prop} (h : Q true (gst f l4.toArray #[(0, 81, 1)])) : wpS (model prog w) A E s (mergeAt' 0) Q (gst f l3.toArray #[(0, 41, 1), (41, 40, 0)]) := by
  refine wpS_bind (wpS_get ?_)
  dsimp only
  refine wpS_bind (wpS_set ?_)
  refine wpS_bind (el_w (x := 54) (by decide +kernel) (wpS_bind (gal1_w C rfl ?_)))
  dsimp only
  refine wpS_bind (el_w (x := 26) (by decide +kernel) (wpS_bind (gal2_w C rfl ?_)))
  dsimp only
  rw [if_neg (by decide), if_neg (by decide), ← Array.map_extract, ← Array.map_extract, a81_is, b81_is]
  refine wpS_bind (hi_w C (z := 26) rfl rfl (by decide +kernel) (by decide +kernel) (by decide +kernel) r81_is ?_)
  refine wpS_bind (wpS_modify (wpS_bind (wpS_get (wpS_pure ?_))))
  have e : List.foldl (fun (a : Array Keyed) (x : Keyed × Nat) => a.setIfInBounds (0 + 2 + x.snd) x.fst) (l3.toArray.map f) (r81.map f).toArray.toList.zipIdx = l4.toArray.map f := by
    rw [l3_cut]
    have := put_list (sa := 0 + 2) (r81.map f) ((s1.drop 2 ++ s2.take 38).map f) ((s1.take 2).map f) ((s2.drop 38).map f) 0 (by rw [List.length_map, List.length_map]; decide +kernel) (by rw [List.length_map]; decide +kernel)
    rw [List.map_toArray, List.map_append, List.map_append, this, l4, List.map_toArray, List.map_append, List.map_append]
  have e2 : ((#[(0, 41, 1), (41, 40, 0)] : Array (Nat × Nat × Nat)).setIfInBounds 0 (0, 41 + 40, 1)).eraseIdxIfInBounds (0 + 1) = #[(0, 81, 1)] := by simp
  rw [e2]
  show Q true (SortSt.mk' oneType' (List.foldl (fun (a : Array Keyed) (x : Keyed × Nat) => a.setIfInBounds (0 + 2 + x.snd) x.fst) (l3.toArray.map f) (r81.map f).toArray.toList.zipIdx) #[(0, 81, 1)] 7 none)
  rw [e]; exact h
theorem runs_w (C : Cp prog w A s f lt81 81) {Q : Unit → SortSt → Prop} (h : ∀ pd, Q () (gst f l4.toArray pd)) : wpS (model prog w) A E s sortRuns' Q (gst f l0.toArray #[]) := by
  rw [sortRuns'_eq]
  refine wpS_bind (wpS_get ?_)
  have hsz : (arrOf (gst f l0.toArray #[])).size = 81 := by
    show (l0.toArray.map f).size = 81
    rw [Array.size_map]; decide +kernel
  have hmr : minRun' 81 81 0 = 41 := by decide +kernel
  dsimp only
  simp only [hsz, hmr]
  refine wpS_bind (loop1 (by decide) ?_)
  dsimp only
  rw [if_neg (by decide)]
  refine wpS_bind (count1_w C ?_)
  dsimp only
  rw [if_pos (by decide)]
  refine wpS_bind (wpS_rule (wpS_bind (bin1_w C ?_)))
  rw [if_neg (by decide)]
  refine wpS_bind (wpS_get (wpS_bind (wpS_modify (wpS_pure ?_))))
  change wpS _ _ _ _ _ _ (gst f l1.toArray #[(0, 41, 0)])
  refine loop1 (by decide) ?_
  rw [if_neg (by decide)]
  refine wpS_bind (count2_w C ?_)
  show wpS _ _ _ _ (if 2 < 41 then _ else _) _ _
  rw [if_pos (by decide)]
  refine wpS_bind (wpS_rule (wpS_bind (bin2_w C ?_)))
  rw [if_neg (by decide)]
  refine wpS_bind (wpS_get (wpS_bind (loop1 (by decide) (wpS_bind (wpS_get (wpS_pure ?_))))))
  refine wpS_bind (wpS_modify (wpS_bind (wpS_modify (wpS_pure ?_))))
  change wpS _ _ _ _ _ _ (gst f l3.toArray #[(0, 41, 1), (41, 40, 0)])
  refine loop1 (by decide) ?_
  rw [if_pos (by decide)]
  refine wpS_pure ?_
  refine wpS_bind (loop1 (by decide) (wpS_bind (wpS_get ?_)))
  rw [if_neg (by show ¬ 2 ≤ 1; decide)]
  refine wpS_bind (merge_w C ?_)
  rw [if_neg (by decide)]
  refine wpS_pure (loop1 (by decide) (wpS_bind (wpS_get ?_)))
  rw [if_pos (by show 1 ≤ 1; decide)]
  exact wpS_pure (wpS_pure (h _))
end
theorem SortIs.big {lt : Nat → Nat → Bool} (hl : ∀ i j, i < 81 → j < 81 → lt i j = lt81 i j) : SortIs 81 lt l4 where
  go prog w A E s vs hn hc := by
    have C : Cp prog w A s (kas_item (pairsOf vs)) lt81 81 := ⟨fun i j Q hi hj h => by
      have := hc i j Q hi hj (by rw [hl i j hi hj]; exact h)
      rw [kas_ask_eq] at this
      exact this⟩
    refine runs_w (E := E) C (Q := fun _ st' => (arrOf st').map (·.2) = List.toArray (l4.map fun i => vs.getD i Value.none) ∧ failedOf st' = none) fun pd => ⟨?_, rfl⟩
    apply Array.toList_inj.mp
    show ((l4.toArray.map (kas_item (pairsOf vs))).map (·.2)).toList = _
    rw [Array.map_map, Array.toList_map]
    exact List.map_congr_left fun i _ => by show (kas_item (pairsOf vs) i).2 = _; rw [kas_item_eq]
  len := by decide +kernel
theorem l4_lt : ∀ i ∈ l4, i < 81 := by decide +kernel
end Mine
end
section
set_option tactic.hygienic false
open PySem PySem.W PyProof.Rows
namespace Mine
noncomputable def rkL : List Nat → Nat
  | [] => 0
  | x :: l => x * 3 ^ l.length + rkL l
noncomputable def Lab (c : Nat) (b : List Nat) : Prop := b.length = c ∧ ∀ x ∈ b, x ≤ 2
theorem rkL_lt : ∀ (b : List Nat), (∀ x ∈ b, x ≤ 2) → rkL b < 3 ^ b.length
  | [], _ => by decide
  | x :: l, h => by
    have h1 := rkL_lt l fun y hy => h y (.tail _ hy)
    have h2 := h x (.head _)
    show x * 3 ^ l.length + rkL l < 3 ^ (l.length + 1)
    rw [Nat.pow_succ]
    have h3 : x * 3 ^ l.length ≤ 2 * 3 ^ l.length := Nat.mul_le_mul_right _ h2
    lia
theorem blanks_eq {x y : Nat} : blanks x = blanks y ↔ x = y := ⟨fun e => by have := congrArg Str.length e; rwa [blanks_len, blanks_len] at this, fun e => by rw [e]⟩
theorem strLt_blanks : ∀ x, x ≤ 2 → ∀ y, y ≤ 2 → strLt (blanks x) (blanks y) = decide (x < y) := by
  intro x hx y hy
  rcases (show x = 0 ∨ x = 1 ∨ x = 2 by lia) with rfl | rfl | rfl <;> rcases (show y = 0 ∨ y = 1 ∨ y = 2 by lia) with rfl | rfl | rfl <;> decide +kernel
theorem rk_head {x y a b q : Nat} (h : x < y) (ha : a < q) : x * q + a < y * q + b := by
  have h3 : (x + 1) * q ≤ y * q := Nat.mul_le_mul_right _ h
  rw [Nat.add_mul, Nat.one_mul] at h3
  lia
theorem texts_rk : ∀ (a b : List Nat), a.length = b.length → (∀ x ∈ a, x ≤ 2) → (∀ x ∈ b, x ≤ 2) → textsLt (a.map blanks) (b.map blanks) = decide (rkL a < rkL b)
  | [], [], _, _, _ => rfl
  | x :: a, [], h, _, _ => by simp at h
  | [], y :: b, h, _, _ => by simp at h
  | x :: a, y :: b, h, h1, h2 => by
    have hl : a.length = b.length := by simpa using h
    have ih := texts_rk a b hl (fun z hz => h1 z (.tail _ hz)) fun z hz => h2 z (.tail _ hz)
    have ra := rkL_lt a fun z hz => h1 z (.tail _ hz)
    have rb := rkL_lt b fun z hz => h2 z (.tail _ hz)
    show (if blanks x = blanks y then textsLt (a.map blanks) (b.map blanks) else strLt (blanks x) (blanks y)) = decide (x * 3 ^ a.length + rkL a < y * 3 ^ b.length + rkL b)
    rw [← hl] at rb ⊢
    by_cases he : x = y
    · subst he
      rw [if_pos rfl, ih]
      congr 1
      exact propext ⟨fun h => Nat.add_lt_add_left h _, fun h => Nat.lt_of_add_lt_add_left h⟩
    · rw [if_neg (fun e => he (blanks_eq.mp e)), strLt_blanks x (h1 x (.head _)) y (h2 y (.head _))]
      rcases Nat.lt_or_gt_of_ne he with hlt | hgt
      · rw [decide_eq_true hlt, decide_eq_true (rk_head hlt ra)]
      · rw [decide_eq_false (by lia), decide_eq_false (Nat.not_lt.mpr (Nat.le_of_lt (rk_head hgt rb)))]
theorem rkL_inj : ∀ (a b : List Nat), a.length = b.length → (∀ x ∈ a, x ≤ 2) → (∀ x ∈ b, x ≤ 2) → rkL a = rkL b → a = b
  | [], [], _, _, _, _ => rfl
  | x :: a, [], h, _, _, _ => by simp at h
  | [], y :: b, h, _, _, _ => by simp at h
  | x :: a, y :: b, h, h1, h2, e => by
    have hl : a.length = b.length := by simpa using h
    have ra := rkL_lt a fun z hz => h1 z (.tail _ hz)
    have rb := rkL_lt b fun z hz => h2 z (.tail _ hz)
    have e' : x * 3 ^ a.length + rkL a = y * 3 ^ b.length + rkL b := e
    rw [← hl] at e' rb
    have hxy : x = y := by
      rcases Nat.lt_trichotomy x y with hlt | heq | hgt
      · have := rk_head (b := rkL b) hlt ra; lia
      · exact heq
      · have := rk_head (b := rkL a) hgt rb; lia
    subst hxy
    rw [rkL_inj a b hl (fun z hz => h1 z (.tail _ hz)) (fun z hz => h2 z (.tail _ hz)) (by lia)]
theorem runT_congr {α : Type} {n : Nat} {P : α → Prop} {lt lt' : Nat → Nat → Bool} (hl : ∀ i j, i < n → j < n → lt i j = lt' i j) : ∀ {t : KasT α}, InR n P t → runT lt t = runT lt' t
  | .ret _, _ => rfl
  | .ask i j k, h => by
    show runT lt (k (lt i j)) = runT lt' (k (lt' i j))
    rw [hl i j h.1 h.2.1]
    exact runT_congr hl (h.2.2 _)
theorem range_getD {α : Type} (d : α) : ∀ (L : List α), (List.range L.length).map (fun i => L.getD i d) = L := fun L => by
  apply List.ext_getElem (by simp)
  intro i h1 h2
  simp [List.getElem?_eq_getElem h2]
noncomputable def srtL (L : List (List Nat)) : List (List Nat) := (runT (labLt L) (kas_sort L.length)).toList.map fun i => L.getD i []
section
variable {c : Nat} {L L' : List (List Nat)}
theorem getD_mem' {α : Type} {L : List α} {i : Nat} {d : α} (h : i < L.length) : L.getD i d ∈ L := by
  rw [List.getD_eq_getElem?_getD, List.getElem?_eq_getElem h]; exact List.getElem_mem h
theorem labLt_rk (hL : ∀ b ∈ L, Lab c b) {i j : Nat} (hi : i < L.length) (hj : j < L.length) : labLt L i j = ltR (fun i => rkL (L.getD i [])) i j := by
  obtain ⟨h1, h2⟩ := hL _ (getD_mem' (d := []) hi)
  obtain ⟨h3, h4⟩ := hL _ (getD_mem' (d := []) hj)
  exact texts_rk _ _ (h1.trans h3.symm) h2 h4
theorem lab_inj (hL : ∀ b ∈ L, Lab c b) (hd : L.Nodup) : Inj (fun i => rkL (L.getD i [])) L.length := fun i j hi hj e => by
  obtain ⟨h1, h2⟩ := hL _ (getD_mem' (d := []) hi)
  obtain ⟨h3, h4⟩ := hL _ (getD_mem' (d := []) hj)
  have := rkL_inj _ _ (h1.trans h3.symm) h2 h4 e
  apply Classical.byContradiction
  intro hne
  have hp := List.pairwise_iff_getElem.mp hd
  rw [List.getD_eq_getElem?_getD, List.getD_eq_getElem?_getD, List.getElem?_eq_getElem hi, List.getElem?_eq_getElem hj] at this
  rcases Nat.lt_or_gt_of_ne hne with h | h
  · exact hp i j hi hj h this
  · exact hp j i hj hi h this.symm
theorem srt_spec (hL : ∀ b ∈ L, Lab c b) (hd : L.Nodup) (h2 : 2 ≤ L.length) : (srtL L).Perm L ∧ (srtL L).Pairwise fun a b => rkL a < rkL b := by
  obtain ⟨hp, hs⟩ := sort_spec (lab_inj hL hd) h2
  have e : runT (labLt L) (kas_sort L.length) = runT (ltR fun i => rkL (L.getD i [])) (kas_sort L.length) := runT_congr (fun i j hi hj => labLt_rk hL hi hj) (sort_in (by lia))
  unfold srtL
  rw [e]
  generalize runT (ltR fun i => rkL (L.getD i [])) (kas_sort L.length) = p at hp hs
  constructor
  · have := hp.perm.map fun i => L.getD i []
    rw [range_getD] at this
    exact this
  · rw [List.pairwise_map, List.pairwise_iff_getElem]
    intro i j hi hj hij
    have hsz := hp.size
    have := hs i j hij (by simpa [hsz] using hj)
    simpa [Array.getD, show i < p.size by simpa using hi, show j < p.size by simpa using hj] using this
theorem srt_eq (hL : ∀ b ∈ L, Lab c b) (hd : L.Nodup) (h2 : 2 ≤ L.length) (hp : L.Perm L') : srtL L = srtL L' := by
  have hL' : ∀ b ∈ L', Lab c b := fun b hb => hL b (hp.mem_iff.mpr hb)
  obtain ⟨a1, a2⟩ := srt_spec hL hd h2
  obtain ⟨b1, b2⟩ := srt_spec hL' (hp.nodup_iff.mp hd) (by rw [← hp.length_eq]; exact h2)
  exact List.Perm.eq_of_pairwise (fun x y _ _ h1 h2 => absurd h1 (Nat.lt_asymm h2)) a2 b2 (a1.trans (hp.trans b1.symm))
end
structure Alike (L L' : List (List Nat)) (out : List (List Nat)) : Prop where
  l : ∀ (G : Gs) (n : Nat), FnM G n (.builtin "sorted") [.list (labsD L)] (labsD out)
  r : ∀ (G : Gs) (n : Nat), FnM G n (.builtin "sorted") [.list (labsD L')] (labsD out)
theorem fn_sorted64 {L : List (List Nat)} (h2 : 2 ≤ L.length) (h64 : L.length < 64) (G : Gs) (n : Nat) : FnM G n (.builtin "sorted") [.list (labsD L)] (labsD (srtL L)) := by
  have := fn_sorted (G := G) (n := n) (SortIs.few (labLt L) h2 h64) (fun i hi => ((sort_in (n := L.length) (by lia)).run (lt := labLt L)).all i hi) h2 (by lia)
  unfold labsD srtL
  rw [List.map_map]
  exact this
theorem Alike.few {c : Nat} {L L' : List (List Nat)} (hL : ∀ b ∈ L, Lab c b) (hd : L.Nodup) (h2 : 2 ≤ L.length) (h64 : L.length < 64) (hp : L.Perm L') : Alike L L' (srtL L) :=
  ⟨fun G n => fn_sorted64 h2 h64 G n, fun G n => by
    rw [srt_eq hL hd h2 hp]
    exact fn_sorted64 (by rw [← hp.length_eq]; exact h2) (by rw [← hp.length_eq]; exact h64) G n⟩
noncomputable def all81 : List (List Nat) := (List.range 81).map (blkN 4)
theorem all81_lt {i j : Nat} (hi : i < 81) (hj : j < 81) : labLt all81 i j = lt81 i j := by
  have hget : ∀ k, k < 81 → all81.getD k [] = [k % 3, k / 3 % 3, k / 9 % 3, k / 27 % 3] := fun k hk => by
    unfold all81
    rw [List.getD_eq_getElem?_getD, List.getElem?_map, List.getElem?_range hk]
    show [k / 1 % 3, k / 3 % 3, k / 9 % 3, k / 27 % 3] = _
    rw [Nat.div_one]
  unfold labLt
  rw [hget i hi, hget j hj, texts_rk [i % 3, i / 3 % 3, i / 9 % 3, i / 27 % 3] [j % 3, j / 3 % 3, j / 9 % 3, j / 27 % 3] rfl (by simp; lia) (by simp; lia)]
  unfold lt81
  have e : ∀ a b c d : Nat, rkL [a, b, c, d] = a * 27 + b * 9 + c * 3 + d := fun a b c d => by
    show a * 3 ^ 3 + (b * 3 ^ 2 + (c * 3 ^ 1 + (d * 3 ^ 0 + 0))) = _
    lia
  rw [e, e]; rfl
theorem Alike.big : Alike all81 all81 (l4.map fun i => all81.getD i []) := by
  have h : ∀ (G : Gs) (n : Nat), FnM G n (.builtin "sorted") [.list (labsD all81)] (labsD (l4.map fun i => all81.getD i [])) := fun G n => by
    have := fn_sorted (G := G) (n := n) (L := all81) (SortIs.big (lt := labLt all81) fun i j hi hj => all81_lt hi hj) l4_lt (by simp [all81]) (by simp [all81])
    unfold labsD
    rw [List.map_map]
    exact this
  exact ⟨h, h⟩
end Mine
end
section
set_option tactic.hygienic false
open PySem PySem.W PyProof.Rows
namespace Mine
theorem blkN_succ (c i : Nat) : blkN (c + 1) i = (i % 3) :: blkN c (i / 3) := by
  unfold blkN
  rw [List.range_succ_eq_map, List.map_cons, List.map_map]
  congr 1
  · rw [Nat.pow_zero, Nat.div_one]
  · apply List.map_congr_left
    intro k _
    show i / 3 ^ (k + 1) % 3 = i / 3 / 3 ^ k % 3
    rw [Nat.pow_succ, Nat.mul_comm, Nat.div_div_eq_div_mul]
theorem blkN_inj : ∀ (c i j : Nat), i < 3 ^ c → j < 3 ^ c → blkN c i = blkN c j → i = j
  | 0, i, j, hi, hj, _ => by simp at hi hj; lia
  | c + 1, i, j, hi, hj, e => by
    rw [blkN_succ, blkN_succ] at e
    obtain ⟨e1, e2⟩ := List.cons.inj e
    rw [Nat.pow_succ] at hi hj
    have := blkN_inj c (i / 3) (j / 3) (by lia) (by lia) e2
    lia
theorem blkN_surj : ∀ (c : Nat) (b : List Nat), Lab c b → ∃ i, i < 3 ^ c ∧ blkN c i = b
  | 0, b, h => ⟨0, by decide, (List.eq_nil_of_length_eq_zero h.1).symm⟩
  | c + 1, [], h => by have := h.1; simp at this
  | c + 1, x :: b, h => by
    obtain ⟨i, hi, e⟩ := blkN_surj c b ⟨by have := h.1; simpa using this, fun y hy => h.2 y (.tail _ hy)⟩
    have hx := h.2 x (.head _)
    refine ⟨x + 3 * i, by rw [Nat.pow_succ]; lia, ?_⟩
    rw [blkN_succ, show (x + 3 * i) % 3 = x by lia, show (x + 3 * i) / 3 = i by lia, e]
theorem blk_lab (c i : Nat) : Lab c (blkN c i) := ⟨blk_len c i, fun x hx => by
  obtain ⟨k, _, rfl⟩ := List.mem_map.mp hx
  lia⟩
noncomputable def allL (c : Nat) : List (List Nat) := (List.range (3 ^ c)).map (blkN c)
theorem allL_mem {c : Nat} {b : List Nat} : b ∈ allL c ↔ Lab c b := by
  unfold allL
  rw [List.mem_map]
  constructor
  · rintro ⟨i, _, rfl⟩; exact blk_lab c i
  · intro h
    obtain ⟨i, hi, e⟩ := blkN_surj c b h
    exact ⟨i, by simpa using hi, e⟩
theorem nodup_map {α β : Type} {f : α → β} {l : List α} (hf : ∀ x ∈ l, ∀ y ∈ l, f x = f y → x = y) (h : l.Nodup) : (l.map f).Nodup := by
  show (l.map f).Pairwise (· ≠ ·)
  rw [List.pairwise_map]
  exact List.Pairwise.imp_of_mem (fun {a b} ha hb hab e => hab (hf a ha b hb e)) h
theorem allL_nodup (c : Nat) : (allL c).Nodup := nodup_map (fun i hi j hj e => blkN_inj c i j (by simpa using hi) (by simpa using hj) e) List.nodup_range
theorem lab_getD {c : Nat} {b : List Nat} (h : Lab c b) (k : Nat) : b.getD k 0 ≤ 2 := by
  rw [List.getD_eq_getElem?_getD]
  cases e : b[k]? with
  | none => exact Nat.zero_le _
  | some x => exact h.2 x (List.mem_of_getElem? e)
theorem ext_getD {a b : List Nat} (hl : a.length = b.length) (h : ∀ k, k < a.length → a.getD k 0 = b.getD k 0) : a = b := by
  apply List.ext_getElem hl
  intro i h1 h2
  have := h i h1
  rw [List.getD_eq_getElem?_getD, List.getD_eq_getElem?_getD, List.getElem?_eq_getElem h1, List.getElem?_eq_getElem h2] at this
  exact this
theorem map_range_getD {c k : Nat} {g : Nat → Nat} (h : k < c) : ((List.range c).map g).getD k 0 = g k := by
  rw [List.getD_eq_getElem?_getD, List.getElem?_map, List.getElem?_range h]; rfl
section
variable {own : List (List Nat)} {kept : List Bool} {c : Nat} {r : Nat → Nat}
theorem under_eq {b : List Nat} (ho : Own own c r) (hr : ∀ k, k < c → r k ≤ 4) {k : Nat} (hk : k < c) : underF own kept b 5 k = maxN ((own.getD k []).map (hgtN own kept c b)) := by
  have e : underF own kept b 5 k = maxN ((own.getD k []).map fun m => b.getD m 0 + if kept.getD m false then 0 else underF own kept b 4 m) := rfl
  rw [e]
  congr 1
  apply List.map_congr_left
  intro m hm
  have h1 := ho.rk k m hm
  have h2 := hr k hk
  rw [underF_stable (kept := kept) (b := b) ho 4 5 m (by lia) (by lia)]
  rfl
theorem ok_need {b : List Nat} (h : okN own c b = true) {k : Nat} (hk : k < c) : needN own b k ≤ b.getD k 0 := of_decide_eq_true (List.all_eq_true.mp h k (by simpa using hk))
theorem told_getD {b : List Nat} {k : Nat} (hk : k < c) : (toldN own kept c b).getD k 0 = if kept.getD k false then b.getD k 0 else b.getD k 0 - needN own b k := map_range_getD hk
theorem grown_getD {b : List Nat} {k : Nat} (hk : k < c) : (grownN own kept c b).getD k 0 = hgtN own kept c b k := map_range_getD hk
theorem told_hgt {b : List Nat} (ho : Own own c r) (hr : ∀ k, k < c → r k ≤ 4) (hb : okN own c b = true) : ∀ (n k : Nat), r k < n → k < c → hgtN own kept c (toldN own kept c b) k = b.getD k 0
  | 0, _, h, _ => absurd h (Nat.not_lt_zero _)
  | n + 1, k, h, hk => by
    rw [hgt_eq ho hr hk, told_getD hk]
    have e : maxN ((own.getD k []).map (hgtN own kept c (toldN own kept c b))) = needN own b k := by
      unfold needN
      congr 1
      apply List.map_congr_left
      intro m hm
      have := ho.rk k m hm
      exact told_hgt ho hr hb n m (by lia) (ho.lt k m hm)
    rw [e]
    have := ok_need hb hk
    cases kept.getD k false
    · simp only [Bool.false_eq_true, if_false]; lia
    · simp only [if_true, Nat.add_zero]
theorem told_due {b : List Nat} (ho : Own own c r) (hr : ∀ k, k < c → r k ≤ 4) (hl : Lab c b) (hb : okN own c b = true) : dueB own kept c (toldN own kept c b) = true := by
  unfold dueB
  rw [List.all_eq_true]
  intro k hk
  have hk' : k < c := by simpa using hk
  refine decide_eq_true ?_
  have e : underF own kept (toldN own kept c b) 5 k = needN own b k := by
    rw [under_eq ho hr hk']
    unfold needN
    congr 1
    apply List.map_congr_left
    intro m hm
    exact told_hgt ho hr hb (r m + 1) m (Nat.lt_succ_self _) (ho.lt k m hm)
  rw [e, told_getD hk']
  have h1 := ok_need hb hk'
  have h2 := lab_getD hl k
  cases kept.getD k false
  · simp only [Bool.false_eq_true, if_false]; lia
  · simp only [if_true]; exact h1
theorem told_lab {b : List Nat} (hl : Lab c b) : Lab c (toldN own kept c b) := ⟨by simp [toldN], fun x hx => by
  obtain ⟨k, _, rfl⟩ := List.mem_map.mp hx
  have := lab_getD hl k
  split <;> lia⟩
theorem grown_told {b : List Nat} (ho : Own own c r) (hr : ∀ k, k < c → r k ≤ 4) (hl : Lab c b) (hb : okN own c b = true) : grownN own kept c (toldN own kept c b) = b := by
  have hlen : (grownN own kept c (toldN own kept c b)).length = c := by simp [grownN]
  refine ext_getD (hlen.trans hl.1.symm) fun k hk => ?_
  rw [hlen] at hk
  rw [grown_getD hk]
  exact told_hgt ho hr hb (r k + 1) k (Nat.lt_succ_self _) hk
theorem grown_need {p : List Nat} (ho : Own own c r) (hr : ∀ k, k < c → r k ≤ 4) {k : Nat} (hk : k < c) : needN own (grownN own kept c p) k = underF own kept p 5 k := by
  rw [under_eq ho hr hk]
  unfold needN
  congr 1
  apply List.map_congr_left
  intro m hm
  exact grown_getD (ho.lt k m hm)
theorem due_at {p : List Nat} (h : dueB own kept c p = true) {k : Nat} (hk : k < c) : underF own kept p 5 k ≤ if kept.getD k false then p.getD k 0 else 2 - p.getD k 0 := of_decide_eq_true (List.all_eq_true.mp h k (by simpa using hk))
theorem hgt_cases {p : List Nat} {k : Nat} : hgtN own kept c p k = p.getD k 0 + if kept.getD k false then 0 else underF own kept p 5 k := rfl
theorem grown_ok {p : List Nat} (ho : Own own c r) (hr : ∀ k, k < c → r k ≤ 4) (hp : dueB own kept c p = true) : okN own c (grownN own kept c p) = true := by
  unfold okN
  rw [List.all_eq_true]
  intro k hk
  have hk' : k < c := by simpa using hk
  refine decide_eq_true ?_
  rw [grown_need ho hr hk', grown_getD hk', hgt_cases]
  have h := due_at hp hk'
  cases hkk : kept.getD k false
  · simp only [Bool.false_eq_true, if_false]; lia
  · rw [hkk] at h; simpa using h
theorem grown_lab {p : List Nat} (hl : Lab c p) (hp : dueB own kept c p = true) : Lab c (grownN own kept c p) := ⟨by simp [grownN], fun x hx => by
  obtain ⟨k, hk, rfl⟩ := List.mem_map.mp hx
  exact hgt_le (fun j => lab_getD hl j) hp (by simpa using hk)⟩
theorem told_grown {p : List Nat} (ho : Own own c r) (hr : ∀ k, k < c → r k ≤ 4) (hl : Lab c p) (hp : dueB own kept c p = true) : toldN own kept c (grownN own kept c p) = p := by
  have hlen : (toldN own kept c (grownN own kept c p)).length = c := by simp [toldN]
  refine ext_getD (hlen.trans hl.1.symm) fun k hk => ?_
  rw [hlen] at hk
  rw [told_getD hk, grown_need ho hr hk, grown_getD hk, hgt_cases]
  cases kept.getD k false
  · simp only [Bool.false_eq_true, if_false]; lia
  · simp
theorem ok_mem {b : List Nat} : b ∈ okNums own c (3 ^ c) ↔ Lab c b ∧ okN own c b = true := by
  show b ∈ (allL c).filter _ ↔ _
  rw [List.mem_filter, allL_mem]
theorem due_mem {b : List Nat} : b ∈ dueNums own kept c (3 ^ c) ↔ Lab c b ∧ dueB own kept c b = true := by
  show b ∈ (allL c).filter _ ↔ _
  rw [List.mem_filter, allL_mem]
theorem ok_nodup : (okNums own c (3 ^ c)).Nodup := List.Pairwise.filter _ (allL_nodup c)
theorem due_nodup : (dueNums own kept c (3 ^ c)).Nodup := List.Pairwise.filter _ (allL_nodup c)
theorem told_perm (ho : Own own c r) (hr : ∀ k, k < c → r k ≤ 4) : ((okNums own c (3 ^ c)).map (toldN own kept c)).Perm (dueNums own kept c (3 ^ c)) := by
  rw [List.perm_ext_iff_of_nodup (nodup_map (fun x hx y hy e => ?_) ok_nodup) due_nodup]
  · intro b
    rw [List.mem_map]
    constructor
    · rintro ⟨x, hx, rfl⟩
      obtain ⟨h1, h2⟩ := ok_mem.mp hx
      exact due_mem.mpr ⟨told_lab h1, told_due ho hr h1 h2⟩
    · intro hb
      obtain ⟨h1, h2⟩ := due_mem.mp hb
      exact ⟨_, ok_mem.mpr ⟨grown_lab h1 h2, grown_ok ho hr h2⟩, told_grown ho hr h1 h2⟩
  · obtain ⟨h1, h2⟩ := ok_mem.mp hx
    obtain ⟨h3, h4⟩ := ok_mem.mp hy
    rw [← grown_told (kept := kept) ho hr h1 h2, e, grown_told ho hr h3 h4]
theorem grown_perm (ho : Own own c r) (hr : ∀ k, k < c → r k ≤ 4) : ((dueNums own kept c (3 ^ c)).map (grownN own kept c)).Perm (okNums own c (3 ^ c)) := by
  have h := (told_perm (kept := kept) ho hr).map (grownN own kept c)
  refine h.symm.trans ?_
  rw [List.map_map]
  have e : (okNums own c (3 ^ c)).map (grownN own kept c ∘ toldN own kept c) = okNums own c (3 ^ c) := by
    conv => rhs; rw [← List.map_id (okNums own c (3 ^ c))]
    apply List.map_congr_left
    intro b hb
    obtain ⟨h1, h2⟩ := ok_mem.mp hb
    exact grown_told ho hr h1 h2
  rw [e]
end
end Mine
end
section
set_option tactic.hygienic false
open PySem PySem.W PyProof.Rows
namespace Mine
theorem maxN_le {v : Nat} {l : List Nat} (h : ∀ x ∈ l, x ≤ v) : maxN l ≤ v := by
  have go : ∀ (l : List Nat) (a : Nat), a ≤ v → (∀ x ∈ l, x ≤ v) → l.foldl max a ≤ v := by
    intro l
    induction l with
    | nil => exact fun a h _ => h
    | cons x l ih => exact fun a ha h => ih _ (Nat.max_le.mpr ⟨ha, h x (.head _)⟩) fun y hy => h y (.tail _ hy)
  exact go l 0 (Nat.zero_le _) h
theorem le_maxN {v : Nat} {l : List Nat} (h : v ∈ l) : v ≤ maxN l := by
  have up : ∀ (l : List Nat) (a : Nat), a ≤ l.foldl max a := by
    intro l
    induction l with
    | nil => exact fun a => Nat.le_refl _
    | cons x l ih => exact fun a => Nat.le_trans (Nat.le_max_left a x) (ih _)
  have go : ∀ (l : List Nat) (a : Nat), v ∈ l → v ≤ l.foldl max a := by
    intro l
    induction l with
    | nil => exact fun a h => nomatch h
    | cons x l ih =>
      intro a h
      rcases List.mem_cons.mp h with rfl | h
      · exact Nat.le_trans (Nat.le_max_right a v) (up l _)
      · exact ih _ h
  exact go l 0 h
theorem two_le {α : Type} {x y : α} {l : List α} (hx : x ∈ l) (hy : y ∈ l) (h : x ≠ y) : 2 ≤ l.length := by
  match l with
  | [] => cases hx
  | [a] =>
    rw [List.mem_singleton] at hx hy
    exact absurd (hx.trans hy.symm) h
  | a :: b :: l => simp
theorem less64 : ∀ k, k < 4 → ∀ m, m < 4 → m ≠ k → ((allL 4).filter fun b => decide (b.getD m 0 ≤ b.getD k 0)).length < 64 := by decide +kernel
section
variable {own : List (List Nat)} {kept : List Bool} {c : Nat} {r : Nat → Nat}
theorem const_ok (ho : Own own c r) (v : Nat) : okN own c (List.replicate c v) = true := by
  unfold okN
  rw [List.all_eq_true]
  intro k hk
  have hk' : k < c := by simpa using hk
  refine decide_eq_true ?_
  have e : ∀ j, j < c → (List.replicate c v).getD j 0 = v := fun j hj => by
    rw [List.getD_eq_getElem?_getD, List.getElem?_replicate, if_pos hj]; rfl
  rw [e k hk']
  refine maxN_le fun x hx => ?_
  obtain ⟨m, hm, rfl⟩ := List.mem_map.mp hx
  rw [e m (ho.lt k m hm)]
  exact Nat.le_refl _
theorem ok_two (ho : Own own c r) (hc : 1 ≤ c) : 2 ≤ (okNums own c (3 ^ c)).length := by
  refine two_le (x := List.replicate c 0) (y := List.replicate c 2) (ok_mem.mpr ⟨⟨by simp, fun x hx => by rw [List.eq_of_mem_replicate hx]; decide⟩, const_ok ho 0⟩) (ok_mem.mpr ⟨⟨by simp, fun x hx => by rw [List.eq_of_mem_replicate hx]; exact Nat.le_refl _⟩, const_ok ho 2⟩) fun e => ?_
  obtain ⟨n, rfl⟩ : ∃ n, c = n + 1 := ⟨c - 1, by lia⟩
  rw [List.replicate_succ, List.replicate_succ] at e
  have := (List.cons.inj e).1
  lia
theorem ok_few (ho : Own own c r) {k m : Nat} (hc : c = 4) (hk : k < c) (hm : m ∈ own.getD k []) : (okNums own c (3 ^ c)).length < 64 := by
  have hm4 := ho.lt k m hm
  have hr := ho.rk k m hm
  have hne : m ≠ k := fun e => by rw [e] at hr; exact Nat.lt_irrefl _ hr
  subst hc
  refine Nat.lt_of_le_of_lt ?_ (less64 k hk m hm4 hne)
  show ((allL 4).filter (okN own 4)).length ≤ _
  rw [← List.countP_eq_length_filter, ← List.countP_eq_length_filter]
  refine List.countP_mono_left fun b _ h => ?_
  refine decide_eq_true (Nat.le_trans ?_ (ok_need h hk))
  exact le_maxN (List.mem_map.mpr ⟨m, hm, rfl⟩)
theorem apart_all (hc : c = 4) (h : ∀ k, k < c → own.getD k [] = []) : okNums own c (3 ^ c) = all81 ∧ dueNums own kept c (3 ^ c) = all81 ∧ all81.map (toldN own kept c) = all81 ∧ all81.map (grownN own kept c) = all81 := by
  subst hc
  have hn : ∀ b k, k < 4 → needN own b k = 0 := fun b k hk => by unfold needN; rw [h k hk]; rfl
  have hu : ∀ b k, k < 4 → underF own kept b 5 k = 0 := fun b k hk => by unfold underF; rw [h k hk]; rfl
  have hall : ∀ b ∈ all81, Lab 4 b := fun b hb => allL_mem.mp hb
  refine ⟨?_, ?_, ?_, ?_⟩
  · show (allL 4).filter (okN own 4) = allL 4
    refine List.filter_eq_self.mpr fun b _ => ?_
    unfold okN
    rw [List.all_eq_true]
    intro k hk
    exact decide_eq_true (by rw [hn b k (by simpa using hk)]; exact Nat.zero_le _)
  · show (allL 4).filter (dueB own kept 4) = allL 4
    refine List.filter_eq_self.mpr fun b _ => ?_
    unfold dueB
    rw [List.all_eq_true]
    intro k hk
    exact decide_eq_true (by rw [hu b k (by simpa using hk)]; exact Nat.zero_le _)
  · conv => rhs; rw [← List.map_id all81]
    refine List.map_congr_left fun b hb => ?_
    have hl := (hall b hb).1
    refine ext_getD (by simp [toldN, hl]) fun k hk => ?_
    have hk' : k < 4 := by simpa [toldN] using hk
    rw [told_getD hk', hn b k hk', Nat.sub_zero]
    split <;> rfl
  · conv => rhs; rw [← List.map_id all81]
    refine List.map_congr_left fun b hb => ?_
    have hl := (hall b hb).1
    refine ext_getD (by simp [grownN, hl]) fun k hk => ?_
    have hk' : k < 4 := by simpa [grownN] using hk
    rw [grown_getD hk', hgt_cases, hu b k hk']
    split <;> rfl
theorem told_alike (ho : Own own c r) (hr : ∀ k, k < c → r k ≤ 4) (hc : 3 ≤ c) :
    (∃ out, Alike ((okNums own c (3 ^ c)).map (toldN own kept c)) (dueNums own kept c (3 ^ c)) out) ∧ ∃ out, Alike ((dueNums own kept c (3 ^ c)).map (grownN own kept c)) (okNums own c (3 ^ c)) out := by
  have h4 := ho.c4
  have p1 := told_perm (kept := kept) ho hr
  have p2 := grown_perm (kept := kept) ho hr
  have h2 := ok_two ho (by lia)
  have few : (okNums own c (3 ^ c)).length < 64 → (∃ out, Alike ((okNums own c (3 ^ c)).map (toldN own kept c)) (dueNums own kept c (3 ^ c)) out) ∧ ∃ out, Alike ((dueNums own kept c (3 ^ c)).map (grownN own kept c)) (okNums own c (3 ^ c)) out := fun h64 => by
    have e1 := p1.length_eq
    have e2 := p2.length_eq
    rw [List.length_map] at e1
    exact ⟨⟨_, Alike.few (c := c) (fun b hb => (due_mem.mp (p1.mem_iff.mp hb)).1) (p1.nodup_iff.mpr due_nodup) (by rw [List.length_map]; exact h2) (by rw [List.length_map]; exact h64) p1⟩,
      ⟨_, Alike.few (c := c) (fun b hb => (ok_mem.mp (p2.mem_iff.mp hb)).1) (p2.nodup_iff.mpr ok_nodup) (by rw [e2]; exact h2) (by rw [e2]; exact h64) p2⟩⟩
  by_cases hc4 : c = 4
  · by_cases hex : ∃ k, k < c ∧ own.getD k [] ≠ []
    · obtain ⟨k, hk, hne⟩ := hex
      obtain ⟨m, hm⟩ := List.exists_mem_of_ne_nil _ hne
      exact few (ok_few ho hc4 hk hm)
    · obtain ⟨a1, a2, a3, a4⟩ := apart_all (own := own) (kept := kept) hc4 fun k hk => Classical.byContradiction fun h => hex ⟨k, hk, h⟩
      rw [a1, a2, a3, a4]
      exact ⟨⟨_, Alike.big⟩, ⟨_, Alike.big⟩⟩
  · have : c = 3 := by lia
    refine few ?_
    have := okNums_len own c (3 ^ c)
    subst c
    have e : 3 ^ 3 = 27 := rfl
    lia
end
end Mine
end
section
set_option tactic.hygienic false
open PySem PySem.W PyProof.Rows
namespace Mine
noncomputable def leadsUp : Nat → List (List Nat)
  | 0 => [[]]
  | n + 1 => [] :: (leadsUp n).flatMap fun l => [32 :: l, 9 :: l]
theorem leads_mem : ∀ (n : Nat) (l : List Nat), l.length ≤ n → (∀ c ∈ l, c = 32 ∨ c = 9) → l ∈ leadsUp n
  | 0, l, h, _ => by rw [List.eq_nil_of_length_eq_zero (by lia : l.length = 0)]; exact .head _
  | n + 1, [], _, _ => .head _
  | n + 1, c :: l, h, hc => by
    refine .tail _ (List.mem_flatMap.mpr ⟨l, leads_mem n l (by simpa using h) (fun x hx => hc x (.tail _ hx)), ?_⟩)
    rcases hc c (.head _) with rfl | rfl
    · exact .head _
    · exact .tail _ (.head _)
noncomputable def leftL (a b : List Nat) : Bool := ((List.range 5).filter fun j => decide ((colsOf b).getD j 0 ≤ (colsOf a).getD j 0)).isEmpty
theorem less_left : ∀ a ∈ leadsUp 4, ∀ b ∈ leadsUp 4, wsLess (wsRun a ws0) (wsRun b ws0) = leftL a b := by decide +kernel
theorem wsRun_stop : ∀ (l : List Nat) (c : Nat) (rest : List Nat) (w : Ws), (∀ x ∈ l, x = 32 ∨ x = 9) → c ≠ 32 → c ≠ 9 → wsRun (l ++ c :: rest) w = wsRun l w
  | [], c, rest, w, _, h1, h2 => by
    show (if c = 32 then wsRun rest w.blank else if c = 9 then wsRun rest w.tab else w) = w
    rw [if_neg h1, if_neg h2]
  | x :: l, c, rest, w, h, h1, h2 => by
    have hl : ∀ y ∈ l, y = 32 ∨ y = 9 := fun y hy => h y (.tail _ hy)
    show (if x = 32 then wsRun (l ++ c :: rest) w.blank else if x = 9 then wsRun (l ++ c :: rest) w.tab else w) = (if x = 32 then wsRun l w.blank else if x = 9 then wsRun l w.tab else w)
    rw [wsRun_stop l c rest _ hl h1 h2, wsRun_stop l c rest _ hl h1 h2]
theorem row_mem (ms : List Int) {k : Nat} (h : k < cntL ms) : rowAt (rowsL ms) k ∈ rowsL ms := getD_mem' (by rw [rowsL_len]; exact h)
theorem ws_lead (ms : List Int) {k : Nat} (h : k < cntL ms) : wsAt ms k = wsRun (rowAt (rowsL ms) k).l ws0 := by
  have hl := rows_let ms _ (row_mem ms h)
  have e : leadW ms k = (rowAt (rowsL ms) k).l ++ (rowAt (rowsL ms) k).2 :: List.replicate (3 * (cntL ms - k)) 32 := by
    unfold leadW Row.word Row.l
    rw [List.append_assoc]; rfl
  unfold wsAt
  rw [e]
  refine wsRun_stop _ _ _ _ (fun x hx => (leadOk (rowAt (rowsL ms) k).1).sg x hx) ?_ ?_ <;> (unfold LetOk at hl; lia)
theorem row_lead (r : Row) : r.l ∈ leadsUp 4 := leads_mem 4 _ (leadL_small r.1) fun x hx => (leadOk r.1).sg x hx
theorem below_own (ms : List Int) : belowL ms = ownL ms := by
  have hl := rowsL_len ms
  have e : rowsL ms = (List.range (cntL ms)).map (rowAt (rowsL ms)) := by
    have := range_getD (0, 97) (rowsL ms)
    rw [hl] at this
    exact this.symm
  unfold ownL
  conv => rhs; arg 2; rw [e]
  rw [List.map_map]
  unfold belowL
  refine List.map_congr_left fun k hk => ?_
  have hk' : k < cntL ms := by simpa using hk
  refine List.filter_congr fun m hm => ?_
  have hm' : m < cntL ms := by simpa using hm
  rw [ws_lead ms hm', ws_lead ms hk']
  exact less_left _ (row_lead _) _ (row_lead _)
theorem col_one : ∀ (l : List Nat) (c : Nat), l.foldl (colStep 1) c = c + l.length
  | [], _ => rfl
  | x :: l, c => by
    rw [List.foldl_cons, col_one l, List.length_cons]
    have : colStep 1 c x = c + 1 := by unfold colStep; split <;> lia
    lia
noncomputable def rkR (ms : List Int) (k : Nat) : Nat := (rowAt (rowsL ms) k).l.length
theorem rkR_le (ms : List Int) (k : Nat) : rkR ms k ≤ 4 := leadL_small _
theorem own_getD (ms : List Int) (k : Nat) : (ownL ms).getD k [] = if k < cntL ms then (List.range (cntL ms)).filter fun m => leftOf (rowAt (rowsL ms) m) (rowAt (rowsL ms) k) else [] := by
  have hl := rowsL_len ms
  unfold ownL
  rw [List.getD_eq_getElem?_getD, List.getElem?_map]
  by_cases h : k < cntL ms
  · rw [if_pos h]
    have e : (rowsL ms)[k]? = some (rowAt (rowsL ms) k) := by
      unfold rowAt
      rw [List.getD_eq_getElem?_getD, List.getElem?_eq_getElem (by lia)]; rfl
    rw [e]; rfl
  · rw [if_neg h, List.getElem?_eq_none (by lia)]; rfl
theorem own_own (ms : List Int) : Own (ownL ms) (cntL ms) (rkR ms) where
  len := own_len ms
  c4 := (cnt_le ms).1
  lt k m hm := by
    rw [own_getD] at hm
    split at hm
    · have := (List.mem_filter.mp hm).1; simpa using this
    · cases hm
  rk k m hm := by
    rw [own_getD] at hm
    split at hm
    · have h := (List.mem_filter.mp hm).2
      unfold leftOf at h
      rw [List.isEmpty_iff, List.filter_eq_nil_iff] at h
      have h0 := h 0 (by simp)
      rw [decide_eq_true_eq, Nat.not_le] at h0
      have e : ∀ r : Row, (colsR r).getD 0 0 = r.l.length := fun r => by
        show r.l.foldl (colStep 1) 0 = _
        rw [col_one, Nat.zero_add]
      rw [e, e] at h0
      exact h0
    · cases hm
  few k := by
    rw [own_getD]
    split
    · refine Nat.le_trans (List.length_filter_le _ _) ?_
      rw [List.length_range]; exact (cnt_le ms).1
    · exact Nat.zero_le _
end Mine
end
section
set_option tactic.hygienic false
open PySem PySem.W PyProof.Rows
namespace Mine
theorem labs_ok (l : List (List Nat)) : (D.list (labsD l)).ok = true := by
  rw [D.ok_list]
  intro d hd
  obtain ⟨b, _, rfl⟩ := List.mem_map.mp hd
  have e : ∀ (b : List Nat), ∀ x ∈ D.dats (b.map fun m => D.str (blanks m)), kqdOk 7 x = true := by
    intro b
    induction b with
    | nil => exact fun x h => by rw [List.map_nil, D.dats] at h; cases h
    | cons m b ih =>
      intro x h
      rw [List.map_cons, D.dats] at h
      rcases List.mem_cons.mp h with rfl | h
      · refine str_dat_ok ?_ 7
        show (blanks m).cps.all (· < 0x110000) = true
        rw [← Array.all_toList, List.all_eq_true]
        intro c hc
        rw [List.eq_of_mem_replicate hc]; rfl
      · exact ih x h
  unfold labD
  rw [D.dat]
  show (D.dats _).all (kqdOk 7) = true
  exact List.all_eq_true.mpr (e b)
section
variable {G : Gs} {P : Params} {n : Nat} {A : Around} {env : Env} {s s₀ : Shared} {N N₀ : Lg} {X Y : Xs}
set_option maxRecDepth 10000
theorem law_ret0 (T : Tl G P) {cx0 : Cx} {B : Bse} {tl du gr lo o1 o2 : List (List Nat)} (h1 : Alike tl du o1) (h2 : Alike gr lo o2) (rm : Rm A 10) (F : Fs G (sc194 P) (ownNames (sc194 P)) B (cxF (labsD gr) (labsD du) (labsD tl) (labsD lo) ++ cx0) env s N) {Q : Flow → Shared → Prop} {E : Value → Shared → Prop}
    (k : ∀ s N cx', Fs G (sc194 P) (ownNames (sc194 P)) B cx' env s N → Q (.ret (.bool true)) s) :
    Wp G A (execs ((bodyOf (fdP P 194)).drop 17) env) Q E s := by
  refine ret_ (d := .bool true) F rm ?_ fun v s1 N1 F1 r1 => ?_
  · refine Ev.lview (x := "told") (ds := labsD tl) (Ev.lview (x := "due") (ds := labsD du) (Ev.lview (x := "grown") (ds := labsD gr) (Ev.lview (x := "loose") (ds := labsD lo) (Ev.and2 
      (Ev.cmp (EvM.ev (EvM.callB (nm_bi T.toTx (by kernel_rfl) (by kernel_rfl) (by decide)) (EvL.cons (Ev.name (x := "told") (by walk_at "sub")) .nil) (h1.l G 10))) (EvM.ev (EvM.callB (nm_bi T.toTx (by kernel_rfl) (by kernel_rfl) (by decide)) (EvL.cons (Ev.name (x := "due") (by walk_at "sub")) .nil) (h1.r G 10))) (cm_eqD (labs_ok _) (labs_ok _) (by simp)))
      (Ev.cmp (EvM.ev (EvM.callB (nm_bi T.toTx (by kernel_rfl) (by kernel_rfl) (by decide)) (EvL.cons (Ev.name (x := "grown") (by walk_at "sub")) .nil) (h2.l G 10))) (EvM.ev (EvM.callB (nm_bi T.toTx (by kernel_rfl) (by kernel_rfl) (by decide)) (EvL.cons (Ev.name (x := "loose") (by walk_at "sub")) .nil) (h2.r G 10))) (cm_eqD (labs_ok _) (labs_ok _) (by simp)))) rfl ?_) rfl ?_) rfl ?_) rfl ?_
    all_goals (unfold cxF; simp only [List.cons_append, List.nil_append]; walk_at "sub")
  · cases r1
    exact k _ _ _ F1
theorem law_return (T : Tl G P) {ms : List Int} {L : Lexer} {B : Bse} {r : Nat → Nat} (hO : Own (ownL ms) (cntL ms) r) (hr : ∀ k, k < cntL ms → r k ≤ 4) (rm : Rm A 10) (F : Fs G (sc194 P) (ownNames (sc194 P)) B (cx4 ms (3 ^ cntL ms) ++ cxL ms L) env s N) {Q : Flow → Shared → Prop} {E : Value → Shared → Prop}
    (k : ∀ s N cx', Fs G (sc194 P) (ownNames (sc194 P)) B cx' env s N → Q (.ret (.bool true)) s) :
    Wp G A (execs ((bodyOf (fdP P 194)).drop 17) env) Q E s := by
  obtain ⟨⟨o1, h1⟩, ⟨o2, h2⟩⟩ := told_alike (kept := keptL ms) hO hr (cnt_le ms).2
  exact law_ret0 T h1 h2 rm F k
theorem law_body (T : Tl G P) {ms : List Int} (hms : ms.length ≤ 63) (rm : Rm A 10) (hfr : A.frames = some [env]) (hf : env.frame = some env.locals) (hY : ∀ q ∈ Y, q.1 ≠ 145)
    (F : Fs G (sc194 P) (ownNames (sc194 P)) ⟨[(145, tabObj #[])] ++ Y, s₀, N₀⟩ [("script", .imm (.list (ms.map .int)))] env s N) {Q : Flow → Shared → Prop} {E : Value → Shared → Prop}
    (k : ∀ mo s N N₃ X3 cx', Bse.Le ⟨[(145, tabObj #[])] ++ Y, s₀, N₀⟩ ⟨X3 ++ ([(145, tabObj mo)] ++ Y), s₀, N₃⟩ → Fs G (sc194 P) (ownNames (sc194 P)) ⟨X3 ++ ([(145, tabObj mo)] ++ Y), s₀, N₃⟩ cx' env s N → Q (.ret (.bool true)) s) : Wp G A (execs (bodyOf (fdP P 194)) env) Q E s :=
  law_all T hms (own_own ms) (fun k _ => rkR_le ms k) (below_own ms) rm hfr hf hY F fun L mo s N N₃ X3 l F => law_return T (own_own ms) (fun k _ => rkR_le ms k) rm F fun s N cx' F => k mo s N N₃ X3 cx' l F
end
end Mine
end
section
set_option tactic.hygienic false
open PySem PySem.W PySem.W.X PyProof.Rows
namespace Mine
noncomputable def fnOk (K : Frag) (a : Addr) : Bool := a != 145 && match K.lookup a with
  | some o => (match o.data with
    | .func fd => (match fd.code with
      | .ref c => c != 145 && codesL.lookup c == some fd.qualname
      | _ => false)
    | _ => false)
  | _ => false
theorem mem_code {c : Addr} {q : Str} : ∀ {l : List (Addr × Str)}, l.lookup c = some q → (c, q) ∈ l
  | [], h => by cases h
  | (a, b) :: l, h => by
    rw [List.lookup_cons] at h
    cases e : c == a with
    | true =>
      rw [e] at h
      cases h
      rw [beq_iff_eq.mp e]
      exact .head _
    | false => rw [e] at h; exact .tail _ (mem_code h)
set_option tactic.hygienic true in
theorem fnAt_of {K : Frag} {h : Heap} (X : K.In h) (Y : ∀ p ∈ codesL, codeNm h p.1 = some p.2) {a : Addr} (e : fnOk K a = true) : FnAt (fun b o => b ≠ 145 ∧ h.get? b = some o) a (fdOf K a) := by
  unfold fnOk at e
  rw [Bool.and_eq_true, bne_iff_ne] at e
  obtain ⟨ha, e⟩ := e
  split at e
  · rename_i o ho
    split at e
    · rename_i fd hd
      have efd : fdOf K a = fd := by
        unfold fdOf
        rw [ho]
        obtain ⟨c, d, dt, sl⟩ := o
        cases hd; rfl
      rw [efd]
      split at e
      · rename_i c hc
        rw [Bool.and_eq_true, bne_iff_ne, beq_iff_eq] at e
        have q := Y (c, fd.qualname) (mem_code e.2)
        unfold codeNm at q
        split at q
        · rename_i v1 v2 vs v3 hoc
          split at q
          · rename_i q' t hq
            cases q
            exact ⟨⟨o, ⟨ha, X _ _ ho⟩, hd⟩, c, _, vs, t, hc, ⟨e.1, hoc⟩, rfl, hq⟩
          · cases q
        · cases q
      · cases e
    · cases e
  · cases e
theorem nsObj_of {h : Heap} {a : Addr} {m : Str → Option Value} (N : h.Ns a m) (ha : a ≠ 145) : NsObj (fun b o => b ≠ 145 ∧ h.get? b = some o) a m :=
  let ⟨o, es, ep, h1, h2, h3, h4⟩ := N
  ⟨o, es, ep, ⟨ha, h1⟩, h2, h3, h4⟩
theorem fnsOk (P : Params) : [28, 35, 49, 56, 63, 70, 94, 101, 108, 129, 150, 155, 160, 167, 172, 179, 184, 189, 194].all (fnOk (heapK P)) = true := by kernel_rfl
section
variable {w : World} {h : Heap} {mg mb : Str → Option Value}
noncomputable def topGs (w : World) (h : Heap) (mg mb : Str → Option Value) (X : (heapK w.params).In h) (g : h.Ns mainGlobals mg) (b : h.Ns builtinsNs mb) (l : h.NoLimit) : Gs where
  prog := PySem.Challenge.rw_rl0073_01.row.prog
  w := w
  mg := mg
  mb := mb
  base := fun a o => a ≠ 145 ∧ h.get? a = some o
  K := KP w.params
  hK := fun a o e => by
    refine ⟨fun q => ?_, X a o e⟩
    subst q
    have : (heapK w.params).lookup 145 = none := by kernel_rfl
    have e' : (heapK w.params).lookup 145 = some o := e
    rw [this] at e'
    cases e'
  hg := nsObj_of g (by decide)
  hb := nsObj_of b (by decide)
  hc := let ⟨mc, l1, l2⟩ := l; ⟨mc, nsObj_of l1 (by decide), l2⟩
end
end Mine
end
section
set_option tactic.hygienic false
open PySem PySem.W PySem.W.X PyProof.Rows
set_option maxRecDepth 100000
namespace Mine
theorem bootsOk : ([("len", .builtin "len"), ("range", .type "range"), ("zip", .type "zip"), ("enumerate", .type "enumerate"), ("max", .builtin "max"), ("min", .builtin "min"), ("sum", .builtin "sum"), ("ord", .builtin "ord"), ("list", .type "list"), ("tuple", .type "tuple"), ("sorted", .builtin "sorted"), ("iter", .builtin "iter"), ("IndexError", .type "IndexError")] : List (Str × Value)).all (fun p => bootBuiltins p.1 == some p.2 && p.1 != "__name__") = true := by kernel_rfl
noncomputable def gNone (K : Frag) (x : Str) : Bool := match nsIn K mainGlobals x with
  | some none => true
  | _ => false
theorem gNone_of {K : Frag} {x : Str} (h : gNone K x = true) : nsIn K mainGlobals x = some none := by
  unfold gNone at h
  split at h
  · assumption
  · cases h
theorem globsOk (P : Params) : (["len", "range", "zip", "enumerate", "max", "min", "sum", "ord", "list", "tuple", "sorted", "iter", "IndexError"] : List Str).all (gNone (heapK P)) = true := by kernel_rfl
theorem topTl {w : World} {h : Heap} {mg mb : Str → Option Value} {p : Program} {loose : List Str} {mean : ExcName → Option Value} (X : (heapK w.params).In h) (T : Top p loose mean mg mb h) (h145 : h.get? 145 = some (tabObj #[])) (Y : ∀ p ∈ codesL, codeNm h p.1 = some p.2) : Tl (topGs w h mg mb X T.g T.b T.nolimit) w.params where
  frag := rfl
  fn := fun a ha => fnAt_of X Y (List.all_eq_true.mp (fnsOk w.params) a ha)
  strcoll := mg_of X T.g (by kernel_rfl)
  strip := mg_of X T.g (by kernel_rfl)
  netrclex := mg_of X T.g (by kernel_rfl)
  Whitespace := mg_of X T.g (by kernel_rfl)
  stream := mg_of X T.g (by kernel_rfl)
  word := mg_of X T.g (by kernel_rfl)
  written := mg_of X T.g (by kernel_rfl)
  columns := mg_of X T.g (by kernel_rfl)
  under := mg_of X T.g (by kernel_rfl)
  longest := mg_of X T.g (by kernel_rfl)
  lost := mg_of X T.g (by kernel_rfl)
  grown := mg_of X T.g (by kernel_rfl)
  bi := fun x v hm => by
    have hb := List.all_eq_true.mp bootsOk _ hm
    simp only [Bool.and_eq_true, beq_iff_eq, bne_iff_ne] at hb
    refine ⟨mg_none_of X T.g (gNone_of ?_), (T.builtins x hb.2).trans hb.1⟩
    exact List.all_eq_true.mp (globsOk w.params) x (List.mem_map_of_mem (f := Prod.fst) hm)
  bm := by
    obtain ⟨bm, ob, b1, b2, b3, b4, b5, b6⟩ := T.bmain
    refine ⟨bm, ob, b1, b2, fun e => ?_, fun e => ?_, ⟨fun e => ?_, b3⟩, b4, b5, b6⟩
    · obtain ⟨o, es, ep, q1, q2, _⟩ := T.g
      rw [e, q1] at b3; cases b3; rw [q2] at b6; cases b6
    · rw [e, h145] at b3; cases b3; cases b6
    · rw [e, h145] at b3; cases b3; cases b6
theorem ints_rp {N : Lg} {vs : List Value} {ms : List Int} (h : IntsAre vs ms) : Rps N vs (ms.map .int) := by
  induction h with
  | nil => exact .nil
  | cons n t _ ih => exact .cons (.int n t) ih
noncomputable def lawO := (defOf viewQ "law").get (by kernel_rfl)
theorem room0 : Rm callerA 11 := ⟨by decide, by decide, rfl⟩
end Mine
set_option maxHeartbeats 8000000 in
set_option tactic.hygienic true in
theorem PySem.Challenge.cw_rl0073_01_holds : PySem.Challenge.rw_rl0073_01.Holds := by
  refine Mine.headH (d := Mine.lawO.1) (by kernel_rfl) (by kernel_rfl) (by kernel_rfl) ?_
  intro w s₀ s₁ mg mb G Y a o pm cd doc dV kV ho hfo hcd hD hmg hg args vals as hpre hlay hrd hwl hlo
  obtain ⟨KX, h145, hcod⟩ := Y
  clear hfo hcd hD
  wrow_args hpre hlay hrd hwl hlo
  rename_i ms _ _ _ _ _ _ _ l vs _ hl _ _ _ hI _ hlen _
  have T := G.T
  have TL := Mine.topTl KX T h145 hcod
  obtain rfl : a = 194 := by
    have e := PySem.W.mg_of KX T.g (n := "law") (v := .ref 194) (by kernel_rfl)
    rw [show Mine.lawO.1.name = ("law" : Str) by kernel_rfl] at hmg
    rw [hmg] at e
    cases e; rfl
  have hx : Mine.Hx [(145, tabObj #[])] s₁ (fun b o => b ≠ 145 ∧ s₁.heap.get? b = some o) := ⟨fun p hp => by
    rcases List.mem_singleton.mp hp with rfl; exact h145, fun p hp o e => by
    rcases List.mem_singleton.mp hp with rfl; exact e.1 rfl, fun p hp v => by
    rcases List.mem_singleton.mp hp with rfl; simp [tabObj]⟩
  obtain ⟨ol, hol, hcl, nl, hdl⟩ := hl
  have hl5 : l ≠ 145 := fun e => by rw [e, h145] at hol; cases hol; cases hcl
  have ok : Mine.Ok (Mine.topGs w s₁.heap mg mb KX T.g T.b T.nolimit) s₁ (fun b o => b ≠ 145 ∧ s₁.heap.get? b = some o) := ⟨fun _ _ e => e, fun _ _ e => e.2⟩
  refine Mine.call_fn (G := Mine.topGs w s₁.heap mg mb KX T.g T.b T.nolimit) (n := 10) (body := Mine.bodyOf (Mine.fdP w.params 194)) (ps := ["script"]) (args := [.list (ms.map .int)]) (E' := fun _ _ _ => False) (TL.fn 194 (by decide)) rfl (by kernel_rfl) rfl rfl rfl (by kernel_rfl) rfl rfl rfl Mine.room0 ok (.one (.list ⟨hl5, hol⟩ hcl hdl (Mine.ints_rp hI))) (fun _ _ _ z => z.elim) ?_
  intro env s2 he rm' F
  have F0 := F.takeX hx ok (fun x ds => Mine.cxOf_imm)
  have hfr : (callerA.deeper env).frames = some [env] := rfl
  have hf : env.frame = some env.locals := by rw [he]; rfl
  refine Mine.law_body (Y := []) TL (by lia) rm' hfr hf (fun _ h => nomatch h) F0 fun mo s' N' N₃ X3 cx' le F1 => ?_
  have keep : ∀ b o, b ≠ 145 → s₁.heap.get? b = some o → s'.heap.get? b = some o := fun b o hb e => by
    have e0 : (Mine.eraseS s₁ [(145, tabObj #[])]).heap.get? b = some o := Mine.eraseS_to (fun p hp q => by rcases List.mem_singleton.mp hp with rfl; exact hb q.symm) e
    refine F1.keep b o (fun p hp q => ?_) e0
    rcases le.x p hp with ⟨q', hq', e'⟩ | e'
    · have : q'.1 = 145 := by
        rcases List.mem_append.mp hq' with h | h
        · rcases List.mem_singleton.mp h with rfl; rfl
        · cases h
      exact hb (by rw [← q, ← e', this])
    · have e'' : (Mine.eraseS s₁ [(145, tabObj #[])]).heap.get? p.1 = none := e'
      rw [q, e0] at e''; cases e''
  have hct : isCodeTable s₁.heap 145 := by
    obtain ⟨oc, vc, _, _, _, _, _, _, _, q1, q2, q3, q4, _⟩ := Mine.codeHd TL.toTx ok
    exact ⟨149, oc, vc, q1, q2, q3, q4⟩
  have t145 : s'.heap.get? 145 = some (tabObj mo) := (F1.ext (145, tabObj mo) (List.mem_append_right _ (.head _))).1
  refine ⟨.inl ⟨_, _, _, rfl, fun _ => rfl, .bool _, by kernel_rfl, fun _ => ⟨.nil, fun _ h => nomatch h⟩⟩, ⟨fun b o e => ?_, fun b o e => ?_⟩, F1.os, AllBare.of_eq (F1.gens.trans hg)⟩
  · by_cases hb : b = 145
    · subst hb
      rw [h145] at e
      cases e
      exact .inr (.inl ⟨hct, rfl, _, mo, rfl, by rw [t145]; simp [tabObj]⟩)
    · exact .inl (keep b o hb e)
  · by_cases hb : b = 145
    · exact ⟨_, hb ▸ t145⟩
    · exact ⟨o, keep b o hb e⟩
end
