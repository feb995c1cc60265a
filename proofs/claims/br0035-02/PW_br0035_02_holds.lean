import PyProof.Rows.All
import Wide.All
import OpenK.AllK
import Wide.FinOn
import PySem.Challenge.RW_br0035_02
set_option Elab.async false
set_option maxRecDepth 100000
set_option linter.unusedVariables false
set_option linter.unusedSectionVars false
namespace Mine
open PySem PySem.W PySem.Calls PyProof.Rows

/-- abstract immutable data -/
inductive D where
  | val (v : Value)
  | int (i : Int)
  | tup (xs : List D)
  deriving Inhabited

def Ext (h h' : Heap) : Prop := ∀ b o, h.get? b = some o → h'.get? b = some o
theorem Ext.refl (h : Heap) : Ext h h := fun _ _ e => e
theorem Ext.trans {a b c : Heap} (x : Ext a b) (y : Ext b c) : Ext a c := fun i o e => y i o (x i o e)
theorem Ext.push (h : Heap) (o : Obj) : Ext h (h.push o) := fun _ _ e => Heap.get?_push_of_some _ e
theorem Ext.none {h h' : Heap} (x : Ext h h') {a : Addr} (e : h'.get? a = none) : h.get? a = none := by
  cases e' : h.get? a with
  | none => rfl
  | some o => rw [x a o e'] at e; cases e

/-- tuples stay -/
def TG (h h' : Heap) : Prop := ∀ a items, IsTup h a items → IsTup h' a items
theorem Ext.tg {h h' : Heap} (x : Ext h h') : TG h h' := fun _ _ t => t.keeps x
theorem TG.refl (h : Heap) : TG h h := fun _ _ t => t
theorem TG.trans {a b c : Heap} (x : TG a b) (y : TG b c) : TG a c := fun i o e => y i o (x i o e)
theorem TG.sameBut {h h' : Heap} {a : Addr} (hs : Heap.SameBut a h h') (hn : ∀ items, ¬ IsTup h a items) : TG h h' := fun b items t => by
  have hne : b ≠ a := by rintro rfl; exact hn _ t
  obtain ⟨o, ho, r⟩ := t
  exact ⟨o, (hs.2 b hne).trans ho, r⟩

mutual
def V (h : Heap) : D → Value → Prop
  | .val u, v => v = u
  | .int i, v => ∃ t, v = .int i t
  | .tup xs, v => ∃ a items, v = .ref a ∧ IsTup h a items ∧ Vs h xs items.toList
def Vs (h : Heap) : List D → List Value → Prop
  | [], vs => vs = []
  | d :: ds, vs => ∃ v ws, vs = v :: ws ∧ V h d v ∧ Vs h ds ws
end

mutual
theorem V.mono {h h' : Heap} (x : TG h h') : ∀ {d : D} {v : Value}, V h d v → V h' d v
  | .val u, v, e => by simpa [V] using e
  | .int i, v, e => by simpa [V] using e
  | .tup xs, v, e => by
    simp only [V] at e ⊢
    obtain ⟨a, items, e1, e2, e3⟩ := e
    exact ⟨a, items, e1, x _ _ e2, Vs.mono x e3⟩
theorem Vs.mono {h h' : Heap} (x : TG h h') : ∀ {ds : List D} {vs : List Value}, Vs h ds vs → Vs h' ds vs
  | [], vs, e => by simpa [Vs] using e
  | d :: ds, vs, e => by
    simp only [Vs] at e ⊢
    obtain ⟨v, ws, e1, e2, e3⟩ := e
    exact ⟨v, ws, e1, V.mono x e2, Vs.mono x e3⟩
end

theorem Vs.nil {h : Heap} : Vs h [] [] := by simp [Vs]
theorem Vs.cons {h : Heap} {d : D} {v : Value} {ds : List D} {vs : List Value} (a : V h d v) (b : Vs h ds vs) : Vs h (d :: ds) (v :: vs) := by
  simp only [Vs]; exact ⟨_, _, rfl, a, b⟩
theorem Vs.length {h : Heap} : ∀ {ds : List D} {vs : List Value}, Vs h ds vs → ds.length = vs.length
  | [], vs, e => by simp only [Vs] at e; subst e; rfl
  | d :: ds, vs, e => by
    simp only [Vs] at e
    obtain ⟨v, ws, rfl, _, e3⟩ := e
    simp [Vs.length e3]
theorem Vs.get {h : Heap} : ∀ {ds : List D} {vs : List Value}, Vs h ds vs → ∀ (i : Nat) (d : D), ds[i]? = some d → ∃ v, vs[i]? = some v ∧ V h d v
  | [], vs, _, i, d, hd => by simp at hd
  | d :: ds, vs, e, i, d', hd => by
    simp only [Vs] at e
    obtain ⟨v, ws, rfl, e2, e3⟩ := e
    cases i with
    | zero => simp only [List.getElem?_cons_zero, Option.some.injEq] at hd; subst hd; exact ⟨v, rfl, e2⟩
    | succ i => simpa using Vs.get e3 i d' (by simpa using hd)
theorem Vs.get' {h : Heap} : ∀ {ds : List D} {vs : List Value}, Vs h ds vs → ∀ (i : Nat) (v : Value), vs[i]? = some v → ∃ d, ds[i]? = some d ∧ V h d v
  | [], vs, e, i, d, hd => by simp only [Vs] at e; subst e; simp at hd
  | d :: ds, vs, e, i, d', hd => by
    simp only [Vs] at e
    obtain ⟨v, ws, rfl, e2, e3⟩ := e
    cases i with
    | zero => simp only [List.getElem?_cons_zero, Option.some.injEq] at hd; subst hd; exact ⟨d, rfl, e2⟩
    | succ i => simpa using Vs.get' e3 i d' (by simpa using hd)
theorem Vs.append {h : Heap} : ∀ {ds es : List D} {vs ws : List Value}, Vs h ds vs → Vs h es ws → Vs h (ds ++ es) (vs ++ ws)
  | [], es, vs, ws, e, e' => by simp only [Vs] at e; subst e; exact e'
  | d :: ds, es, vs, ws, e, e' => by
    simp only [Vs] at e
    obtain ⟨v, us, rfl, e2, e3⟩ := e
    exact Vs.cons e2 (Vs.append e3 e')
theorem Vs.drop {h : Heap} : ∀ {ds : List D} {vs : List Value}, Vs h ds vs → ∀ n, Vs h (ds.drop n) (vs.drop n)
  | ds, vs, e, 0 => by simpa using e
  | [], vs, e, n+1 => by simp only [Vs] at e; subst e; simpa using Vs.nil
  | d :: ds, vs, e, n+1 => by
    simp only [Vs] at e
    obtain ⟨v, us, rfl, e2, e3⟩ := e
    simpa using Vs.drop e3 n
theorem Vs.take {h : Heap} : ∀ {ds : List D} {vs : List Value}, Vs h ds vs → ∀ n, Vs h (ds.take n) (vs.take n)
  | ds, vs, e, 0 => by simpa using Vs.nil
  | [], vs, e, n+1 => by simp only [Vs] at e; subst e; simpa using Vs.nil
  | d :: ds, vs, e, n+1 => by
    simp only [Vs] at e
    obtain ⟨v, us, rfl, e2, e3⟩ := e
    simpa using Vs.cons e2 (Vs.take e3 n)
theorem Vs.set {h : Heap} {d : D} {v : Value} (hv : V h d v) : ∀ {ds : List D} {vs : List Value}, Vs h ds vs → ∀ n, Vs h (ds.set n d) (vs.set n v)
  | [], vs, e, n => by simp only [Vs] at e; subst e; simpa using Vs.nil
  | d' :: ds, vs, e, n => by
    simp only [Vs] at e
    obtain ⟨v', us, rfl, e2, e3⟩ := e
    cases n with
    | zero => simpa using Vs.cons hv e3
    | succ n => simpa using Vs.cons e2 (Vs.set hv e3 n)
theorem Vs.ints {h : Heap} {ns : List Int} : ∀ {vs : List Value}, IntsAre vs ns → Vs h (ns.map .int) vs := by
  intro vs hi
  induction hi with
  | nil => exact Vs.nil
  | cons n t _ ih => exact Vs.cons (by simp [V]) ih
theorem Vs.intsAre {h : Heap} : ∀ {ns : List Int} {vs : List Value}, Vs h (ns.map .int) vs → IntsAre vs ns
  | [], vs, e => by simp only [List.map_nil, Vs] at e; subst e; exact .nil
  | n :: ns, vs, e => by
    simp only [List.map_cons, Vs, V] at e
    obtain ⟨v, us, rfl, ⟨t, rfl⟩, e3⟩ := e
    exact .cons n t (Vs.intsAre e3)

/-- a list object with contents -/
def LI (h : Heap) (a : Addr) (xs : List D) : Prop := ∃ items, h.IsList a items ∧ Vs h xs items.toList
def PL (h : Heap) (a : Addr) (xs : List D) : Prop := ∃ items, h.PlainList a items ∧ Vs h xs items.toList
theorem PL.li {h : Heap} {a : Addr} {xs : List D} (x : PL h a xs) : LI h a xs := let ⟨i, p, q⟩ := x; ⟨i, p.isList, q⟩
theorem LI.ext {h h' : Heap} {a : Addr} {xs : List D} (x : LI h a xs) (e : Ext h h') : LI h' a xs :=
  let ⟨i, ⟨o, ho, r⟩, q⟩ := x; ⟨i, ⟨o, e _ _ ho, r⟩, q.mono e.tg⟩
theorem PL.ext {h h' : Heap} {a : Addr} {xs : List D} (x : PL h a xs) (e : Ext h h') : PL h' a xs :=
  let ⟨i, ⟨n, ho⟩, q⟩ := x; ⟨i, ⟨n, e _ _ ho⟩, q.mono e.tg⟩
theorem PL.sameBut {h h' : Heap} {a b : Addr} {xs : List D} (x : PL h a xs) (e : Heap.SameBut b h h') (t : TG h h') (hne : a ≠ b) : PL h' a xs :=
  let ⟨i, ⟨n, ho⟩, q⟩ := x; ⟨i, ⟨n, (e.2 _ hne).trans ho⟩, q.mono t⟩

/-- kinds of owned mutable objects -/
inductive Cell where
  | list (xs : List D)
  | dI (n : Nat) (f : Int → Option D)
  | dT (n : Nat) (f : List Int → Option D)
  | obj (o : Obj)

section
variable (prog : Program) (w : World)
abbrev tk : HeapKind prog w (List Int) := tupleKind (intKind prog w)

def OV (h : Heap) : Option D → Option Value → Prop
  | none, o => o = none
  | some d, o => ∃ v, o = some v ∧ V h d v
theorem OV.mono {h h' : Heap} (x : TG h h') : ∀ {d : Option D} {v : Option Value}, OV h d v → OV h' d v
  | none, _, e => e
  | some _, _, ⟨v, e, q⟩ => ⟨v, e, q.mono x⟩

def Cell.In (h : Heap) (a : Addr) : Cell → Prop
  | .list xs => PL h a xs
  | .dI n f => (a == sysModules) = false ∧ ∃ kvs, h.DictOf (intKind prog w) a kvs ∧ kvs.length ≤ n ∧ ∀ k, OV h (f k) (valueAt kvs k)
  | .obj o => h.get? a = some o ∧ (∀ v, o.data ≠ .cell v) ∧ o.cls ≠ .type "tuple"
  | .dT n f => (a == sysModules) = false ∧ ∃ xs, h.DictOfH (tk prog w) a xs ∧ xs.length ≤ n ∧ ∀ k, OV h (f k) ((atKey xs k).map (·.2))

variable {prog w}
theorem isTup_of_key {h : Heap} {ks : List Int} {a : Addr} (x : IsTupleKey (intKind prog w) h ks a) : ∃ items, IsTup h a items ∧ ItemsAre (intKind prog w) ks items.toList := by
  obtain ⟨o, items, n, ho, hc, hd, hi⟩ := x
  exact ⟨items, ⟨o, ho, hc, n, hd⟩, hi⟩
theorem key_of_isTup {h : Heap} {ks : List Int} {a : Addr} {items : Array Value} (x : IsTup h a items) (hi : ItemsAre (intKind prog w) ks items.toList) : IsTupleKey (intKind prog w) h ks a := by
  obtain ⟨o, ho, hc, n, hd⟩ := x
  exact ⟨o, items, n, ho, hc, hd, hi⟩
theorem key_mono {h h' : Heap} (t : TG h h') {ks : List Int} {a : Addr} (x : IsTupleKey (intKind prog w) h ks a) : IsTupleKey (intKind prog w) h' ks a :=
  let ⟨_, p, q⟩ := isTup_of_key x; key_of_isTup (t _ _ p) q
theorem itemsAre_of_vs {h : Heap} : ∀ {ks : List Int} {vs : List Value}, Vs h (ks.map .int) vs → ItemsAre (intKind prog w) ks vs
  | [], vs, e => by simp only [List.map_nil, Vs] at e; subst e; exact .nil
  | k :: ks, vs, e => by
    simp only [List.map_cons, Vs, V] at e
    obtain ⟨v, us, rfl, ⟨t, rfl⟩, e3⟩ := e
    exact .cons (intKind_is prog w k t) (itemsAre_of_vs e3)
theorem key_of_v {h : Heap} {ks : List Int} {v : Value} (x : V h (.tup (ks.map .int)) v) : ∃ a, v = .ref a ∧ IsTupleKey (intKind prog w) h ks a := by
  simp only [V] at x
  obtain ⟨a, items, rfl, p, q⟩ := x
  exact ⟨a, rfl, key_of_isTup p (itemsAre_of_vs q)⟩

theorem DictOfH.ofGet {h h' : Heap} {a : Addr} {xs : List (List Int × Addr × Value)} (x : h.DictOfH (tk prog w) a xs) (t : TG h h') (hg : ∀ o, h.get? a = some o → h'.get? a = some o) : h'.DictOfH (tk prog w) a xs := by
  obtain ⟨o, es, ep, ho, r1, r2, r3, r4, r5⟩ := x
  exact ⟨o, es, ep, hg _ ho, r1, r2, r3, fun x hx => key_mono t (r4 x hx), r5⟩
theorem DictOf.ofGet {h h' : Heap} {a : Addr} {xs : List (Int × Value)} (x : h.DictOf (intKind prog w) a xs) (hg : ∀ o, h.get? a = some o → h'.get? a = some o) : h'.DictOf (intKind prog w) a xs := by
  obtain ⟨o, es, ep, ho, r⟩ := x
  exact ⟨o, es, ep, hg _ ho, r⟩
theorem Cell.In.ofGet {h h' : Heap} {a : Addr} {c : Cell} (x : c.In prog w h a) (t : TG h h') (hg : ∀ o, h.get? a = some o → h'.get? a = some o) : c.In prog w h' a := by
  cases c with
  | list xs => obtain ⟨i, ⟨n, ho⟩, q⟩ := x; exact ⟨i, ⟨n, hg _ ho⟩, q.mono t⟩
  | dI n f => obtain ⟨e, kvs, p, q, r⟩ := x; exact ⟨e, kvs, DictOf.ofGet p hg, q, fun k => (r k).mono t⟩
  | dT n f => obtain ⟨e, kvs, p, q, r⟩ := x; exact ⟨e, kvs, DictOfH.ofGet p t hg, q, fun k => (r k).mono t⟩
  | obj o => exact ⟨hg _ x.1, x.2⟩
theorem Cell.In.ext {h h' : Heap} {a : Addr} {c : Cell} (x : c.In prog w h a) (e : Ext h h') : c.In prog w h' a := x.ofGet e.tg (fun o => e a o)
theorem Cell.In.some {h : Heap} {a : Addr} {c : Cell} (x : c.In prog w h a) : ∃ o, h.get? a = some o ∧ (∀ v, o.data ≠ .cell v) ∧ o.cls ≠ .type "tuple" := by
  cases c with
  | list xs => obtain ⟨i, ⟨n, ho⟩, q⟩ := x; exact ⟨_, ho, by simp, by simp⟩
  | dI n f => obtain ⟨e, kvs, ⟨o, es, ep, ho, r1, r2, _⟩, q, r⟩ := x; exact ⟨o, ho, by simp [r2], by rw [r1.1]; simp⟩
  | dT n f => obtain ⟨e, kvs, ⟨o, es, ep, ho, r1, r2, _⟩, q, r⟩ := x; exact ⟨o, ho, by simp [r2], by rw [r1.1]; simp⟩
  | obj o => exact ⟨o, x.1, x.2.1, x.2.2⟩
theorem Cell.In.noTup {h : Heap} {a : Addr} {c : Cell} (x : c.In prog w h a) : ∀ items, ¬ IsTup h a items := by
  rintro items ⟨o', ho', hc, _⟩
  obtain ⟨o, ho, _, hn⟩ := x.some
  rw [ho] at ho'; cases ho'; exact hn hc
end
end Mine

namespace Mine
open PySem PySem.W PySem.Calls PyProof.Rows

/-- what is known of the text's top, kept for ever -/
structure Gl (K : Frag) (mg mb : Str → Option Value) (h : Heap) : Prop where
  k : K.In h
  g : h.Ns mainGlobals mg
  b : h.Ns builtinsNs mb
  nolimit : h.NoLimit
theorem Gl.ext {K : Frag} {mg mb : Str → Option Value} {h h' : Heap} (x : Gl K mg mb h) (e : Ext h h') : Gl K mg mb h' :=
  ⟨Frag.In.keeps x.k e, x.g.keeps e, x.b.keeps e, x.nolimit.keeps e⟩

abbrev Rho := List (Str × D)
abbrev Sig := Addr → Option Cell
def Sig.put (σ : Sig) (a : Addr) (c : Cell) : Sig := fun b => if b = a then some c else σ b
theorem Sig.put_same (σ : Sig) (a : Addr) (c : Cell) : σ.put a c a = some c := by simp [Sig.put]
theorem Sig.put_ne (σ : Sig) {a b : Addr} (c : Cell) (h : b ≠ a) : σ.put a c b = σ b := by simp [Sig.put, h]
theorem Sig.put_put (σ : Sig) (a : Addr) (c c' : Cell) : (σ.put a c).put a c' = σ.put a c' := by
  funext b; unfold Sig.put; split <;> simp_all
theorem Sig.put_comm (σ : Sig) {a b : Addr} (c c' : Cell) (h : a ≠ b) : (σ.put a c).put b c' = (σ.put b c').put a c := by
  funext x; unfold Sig.put; split <;> split <;> simp_all

structure St (prog : Program) (w : World) (K : Frag) (mg mb : Str → Option Value) (g : Heap) (env : Env) (ρ : Rho) (σ : Sig) (h : Heap) : Prop where
  glob : Gl K mg mb g
  keep : Ext g h
  kind : env.scope.kind = .function
  globals : env.globals = mainGlobals
  builtins : env.builtins = builtinsNs
  out : g.get? env.locals = none
  ns : ∃ m, h.Ns env.locals m ∧ ∀ x d, ρ.lookup x = some d → env.kindOf x = some .local → ∃ v, m x = some v ∧ V h d v
  cel : ∀ x d, ρ.lookup x = some d → env.kindOf x = some .cell ∨ env.kindOf x = some .free → ∃ c v, env.cells.lookup x = some c ∧ h.IsCell c (some v) ∧ V h d v
  cok : ∀ x c, env.cells.lookup x = some c → g.get? c = none ∧ ∃ v, h.IsCell c v
  apart : ∀ x y c, env.cells.lookup x = some c → env.cells.lookup y = some c → x = y
  own : ∀ a c, σ a = some c → c.In prog w h a ∧ g.get? a = none ∧ a ≠ env.locals

section
variable {prog : Program} {w : World} {K : Frag} {mg mb : Str → Option Value} {g : Heap} {env : Env} {ρ : Rho} {σ : Sig} {h h' : Heap}

theorem Ns_noTup {h : Heap} {a : Addr} {m} (x : h.Ns a m) : ∀ items, ¬ IsTup h a items := by
  rintro items ⟨o', ho', hc, n, hd⟩
  obtain ⟨o, es, ep, ho, hd', _⟩ := x
  rw [ho] at ho'; cases ho'; rw [hd] at hd'; cases hd'
theorem IsCell.noTup {h : Heap} {a : Addr} {v} (x : h.IsCell a v) : ∀ items, ¬ IsTup h a items := by
  rintro items ⟨o', ho', hc, n, hd⟩
  obtain ⟨o, ho, hd'⟩ := x
  rw [ho] at ho'; cases ho'; rw [hd] at hd'; cases hd'
theorem IsCell.ne_ns {h : Heap} {a b : Addr} {v m} (x : h.IsCell a v) (y : h.Ns b m) : a ≠ b := by
  rintro rfl
  obtain ⟨o, ho, hd'⟩ := x
  obtain ⟨o', es, ep, ho', hd, _⟩ := y
  rw [ho] at ho'; cases ho'; rw [hd] at hd'; cases hd'
theorem Cell.In.ne_cell {h : Heap} {a b : Addr} {v} {c : Cell} (x : c.In prog w h a) (y : h.IsCell b v) : a ≠ b := by
  rintro rfl
  obtain ⟨o, ho, hd, _⟩ := x.some
  obtain ⟨o', ho', hd'⟩ := y
  rw [ho] at ho'; cases ho'; exact hd _ hd'

theorem St.ext (S : St prog w K mg mb g env ρ σ h) (e : Ext h h') : St prog w K mg mb g env ρ σ h' where
  glob := S.glob
  keep := S.keep.trans e
  kind := S.kind
  globals := S.globals
  builtins := S.builtins
  out := S.out
  ns := let ⟨m, hn, r⟩ := S.ns; ⟨m, hn.keeps e, fun x d h1 h2 => let ⟨v, p, q⟩ := r x d h1 h2; ⟨v, p, q.mono e.tg⟩⟩
  cel := fun x d h1 h2 => let ⟨c, v, p, q, r⟩ := S.cel x d h1 h2; ⟨c, v, p, q.keeps e, r.mono e.tg⟩
  cok := fun x c h1 => let ⟨p, v, q⟩ := S.cok x c h1; ⟨p, v, q.keeps e⟩
  apart := S.apart
  own := fun a c h1 => let ⟨p, q, r⟩ := S.own a c h1; ⟨p.ext e, q, r⟩
theorem St.gl (S : St prog w K mg mb g env ρ σ h) : Gl K mg mb h := S.glob.ext S.keep
theorem St.weaken {ρ' : Rho} (S : St prog w K mg mb g env ρ σ h) (hw : ∀ x d, ρ'.lookup x = some d → ρ.lookup x = some d) : St prog w K mg mb g env ρ' σ h :=
  { S with
    ns := let ⟨m, hn, r⟩ := S.ns; ⟨m, hn, fun x d h1 h2 => r x d (hw x d h1) h2⟩
    cel := fun x d h1 h2 => S.cel x d (hw x d h1) h2 }
theorem St.weakenS {σ' : Sig} (S : St prog w K mg mb g env ρ σ h) (hw : ∀ a c, σ' a = some c → σ a = some c) : St prog w K mg mb g env ρ σ' h :=
  { S with own := fun a c h1 => S.own a c (hw a c h1) }

/-- a local name stored -/
theorem St.store (S : St prog w K mg mb g env ρ σ h) {m : Str → Option Value} (hn : h.Ns env.locals m) {x : Str} {d : D} {v : Value} (hx : env.kindOf x = some .local) (hv : V h d v)
    (hn' : h'.Ns env.locals (fun y => if y = x then some v else m y)) (hs : Heap.SameBut env.locals h h') : St prog w K mg mb g env ((x, d) :: ρ) σ h' := by
  have tg : TG h h' := TG.sameBut hs (Ns_noTup hn)
  exact {
    glob := S.glob
    keep := fun b o e => by
      have hne : b ≠ env.locals := by rintro rfl; rw [S.out] at e; cases e
      exact (hs.2 b hne).trans (S.keep b o e)
    kind := S.kind
    globals := S.globals
    builtins := S.builtins
    out := S.out
    ns := ⟨_, hn', fun y d' h1 h2 => by
      by_cases hy : y = x
      · subst hy
        rw [List.lookup_cons, beq_self_eq_true] at h1
        cases h1
        exact ⟨v, by simp, hv.mono tg⟩
      · obtain ⟨m₀, hn₀, r⟩ := S.ns
        have hb : (y == x) = false := beq_eq_false_iff_ne.mpr hy
        rw [List.lookup_cons, hb] at h1
        obtain ⟨u, p, q⟩ := r y d' h1 h2
        refine ⟨u, ?_, q.mono tg⟩
        simp only [hy, if_false]
        rw [hn.eq_nsMap, ← hn₀.eq_nsMap]; exact p⟩
    cel := fun y d' h1 h2 => by
      have hy : y ≠ x := by rintro rfl; rw [hx] at h2; simp at h2
      have hb : (y == x) = false := beq_eq_false_iff_ne.mpr hy
      rw [List.lookup_cons, hb] at h1
      obtain ⟨c, u, p, q, r⟩ := S.cel y d' h1 h2
      exact ⟨c, u, p, q.sameBut hs (IsCell.ne_ns q hn), r.mono tg⟩
    cok := fun y c h1 => let ⟨p, u, q⟩ := S.cok y c h1; ⟨p, u, q.sameBut hs (IsCell.ne_ns q hn)⟩
    apart := S.apart
    own := fun a c h1 => let ⟨p, q, r⟩ := S.own a c h1; ⟨p.ofGet tg fun o e => (hs.2 a r).trans e, q, r⟩ }

/-- a captured name stored -/
theorem St.storeC (S : St prog w K mg mb g env ρ σ h) {x : Str} {d : D} {v : Value} {c : Addr} (hx : env.kindOf x = some .cell) (hv : V h d v) (hc : env.cells.lookup x = some c)
    (hn' : h'.IsCell c (some v)) (hs : Heap.SameBut c h h') : St prog w K mg mb g env ((x, d) :: ρ) σ h' := by
  obtain ⟨hout, v₀, hc₀⟩ := S.cok x c hc
  have tg : TG h h' := TG.sameBut hs (IsCell.noTup hc₀)
  obtain ⟨m, hn, r⟩ := S.ns
  have hne := IsCell.ne_ns hc₀ hn
  exact {
    glob := S.glob
    keep := fun b o e => by
      have hne : b ≠ c := by rintro rfl; rw [hout] at e; cases e
      exact (hs.2 b hne).trans (S.keep b o e)
    kind := S.kind
    globals := S.globals
    builtins := S.builtins
    out := S.out
    ns := ⟨m, hn.sameBut hs (Ne.symm hne), fun y d' h1 h2 => by
      have hy : y ≠ x := by rintro rfl; rw [hx] at h2; simp at h2
      have hb : (y == x) = false := beq_eq_false_iff_ne.mpr hy
      rw [List.lookup_cons, hb] at h1
      obtain ⟨u, p, q⟩ := r y d' h1 h2
      exact ⟨u, p, q.mono tg⟩⟩
    cel := fun y d' h1 h2 => by
      by_cases hy : y = x
      · subst hy
        rw [List.lookup_cons, beq_self_eq_true] at h1
        cases h1
        exact ⟨c, v, hc, hn', hv.mono tg⟩
      · have hb : (y == x) = false := beq_eq_false_iff_ne.mpr hy
        rw [List.lookup_cons, hb] at h1
        obtain ⟨c', u, p, q, r⟩ := S.cel y d' h1 h2
        have hcc : c' ≠ c := fun e => hy (S.apart _ _ _ (e ▸ p) hc)
        exact ⟨c', u, p, q.sameBut hs hcc, r.mono tg⟩
    cok := fun y c' h1 => by
      obtain ⟨p, u, q⟩ := S.cok y c' h1
      by_cases hcc : c' = c
      · subst hcc; exact ⟨p, _, hn'⟩
      · exact ⟨p, u, q.sameBut hs hcc⟩
    apart := S.apart
    own := fun a cc h1 => let ⟨p, q, r⟩ := S.own a cc h1; ⟨p.ofGet tg fun o e => (hs.2 a (Cell.In.ne_cell p hc₀)).trans e, q, r⟩ }

/-- an owned object turned -/
theorem St.turn (S : St prog w K mg mb g env ρ σ h) {a : Addr} {c c' : Cell} (ha : σ a = some c) (hs : Heap.SameBut a h h') (hc : TG h h' → c'.In prog w h' a) :
    St prog w K mg mb g env ρ (σ.put a c') h' := by
  obtain ⟨hin, hout, hL⟩ := S.own a c ha
  have tg : TG h h' := TG.sameBut hs hin.noTup
  obtain ⟨m, hn, r⟩ := S.ns
  exact {
    glob := S.glob
    keep := fun b o e => by
      have hne : b ≠ a := by rintro rfl; rw [hout] at e; cases e
      exact (hs.2 b hne).trans (S.keep b o e)
    kind := S.kind
    globals := S.globals
    builtins := S.builtins
    out := S.out
    ns := ⟨m, hn.sameBut hs (Ne.symm hL), fun y d' h1 h2 => let ⟨u, p, q⟩ := r y d' h1 h2; ⟨u, p, q.mono tg⟩⟩
    cel := fun y d' h1 h2 => let ⟨c', u, p, q, r⟩ := S.cel y d' h1 h2; ⟨c', u, p, q.sameBut hs (Ne.symm (Cell.In.ne_cell hin q)), r.mono tg⟩
    cok := fun y c' h1 => let ⟨p, u, q⟩ := S.cok y c' h1; ⟨p, u, q.sameBut hs (Ne.symm (Cell.In.ne_cell hin q))⟩
    apart := S.apart
    own := fun b cc h1 => by
      by_cases hb : b = a
      · subst hb
        rw [Sig.put_same] at h1; cases h1
        exact ⟨hc tg, hout, hL⟩
      · rw [Sig.put_ne _ _ hb] at h1
        obtain ⟨p, q, r⟩ := S.own b cc h1
        exact ⟨p.ofGet tg fun o e => (hs.2 b hb).trans e, q, r⟩ }

/-- a new owned object -/
theorem St.own_new (S : St prog w K mg mb g env ρ σ h) {a : Addr} {c : Cell} (e : Ext h h') (hn : h.get? a = none) (hc : c.In prog w h' a) : St prog w K mg mb g env ρ (σ.put a c) h' :=
  { S.ext e with
    own := fun b cc h1 => by
      by_cases hb : b = a
      · subst hb
        rw [Sig.put_same] at h1; cases h1
        refine ⟨hc, S.keep.none hn, ?_⟩
        rintro rfl
        obtain ⟨m, hns, _⟩ := S.ns
        obtain ⟨o, _, _, ho, _⟩ := hns
        rw [hn] at ho; cases ho
      · rw [Sig.put_ne _ _ hb] at h1
        exact (S.ext e).own b cc h1 }
theorem St.fresh (S : St prog w K mg mb g env ρ σ h) {a : Addr} (hn : h.get? a = none) : σ a = none ∧ a ≠ env.locals ∧ g.get? a = none := by
  refine ⟨?_, ?_, S.keep.none hn⟩
  · cases e : σ a with
    | none => rfl
    | some c =>
      obtain ⟨o, ho, _⟩ := (S.own a c e).1.some
      rw [hn] at ho; cases ho
  · rintro rfl
    obtain ⟨m, hns, _⟩ := S.ns
    obtain ⟨o, _, _, ho, _⟩ := hns
    rw [hn] at ho; cases ho
end

/-- results -/
inductive Res where
  | d (x : D)
  | lst (xs : List D)
  | new (xs : List D)
def VR (h₀ h : Heap) : Res → Value → Prop
  | .d x, v => V h x v
  | .lst xs, v => ∃ a, v = .ref a ∧ LI h a xs
  | .new xs, v => ∃ a, v = .ref a ∧ h₀.get? a = none ∧ PL h a xs
def AR (h : Heap) : Res → Value → Prop
  | .d x, v => V h x v
  | .lst xs, v | .new xs, v => ∃ a, v = .ref a ∧ LI h a xs
def VRs (h₀ h : Heap) : List Res → List Value → Prop
  | [], vs => vs = []
  | r :: rs, vs => ∃ v ws, vs = v :: ws ∧ VR h₀ h r v ∧ VRs h₀ h rs ws
def ARs (h : Heap) : List Res → List Value → Prop
  | [], vs => vs = []
  | r :: rs, vs => ∃ v ws, vs = v :: ws ∧ AR h r v ∧ ARs h rs ws
theorem VR.ext {h₀ h h' : Heap} (e : Ext h h') : ∀ {r : Res} {v : Value}, VR h₀ h r v → VR h₀ h' r v
  | .d x, v, q => V.mono e.tg q
  | .lst xs, v, ⟨a, p, q⟩ => ⟨a, p, q.ext e⟩
  | .new xs, v, ⟨a, p, f, q⟩ => ⟨a, p, f, q.ext e⟩
theorem VR.base {h₀ h₁ h : Heap} (e : Ext h₀ h₁) : ∀ {r : Res} {v : Value}, VR h₁ h r v → VR h₀ h r v
  | .d x, v, q => q
  | .lst xs, v, q => q
  | .new xs, v, ⟨a, p, f, q⟩ => ⟨a, p, e.none f, q⟩
theorem VR.ar {h₀ h : Heap} : ∀ {r : Res} {v : Value}, VR h₀ h r v → AR h r v
  | .d x, v, q => q
  | .lst xs, v, q => q
  | .new xs, v, ⟨a, p, _, q⟩ => ⟨a, p, q.li⟩
theorem AR.ext {h h' : Heap} (e : Ext h h') : ∀ {r : Res} {v : Value}, AR h r v → AR h' r v
  | .d x, v, q => V.mono e.tg q
  | .lst xs, v, ⟨a, p, q⟩ => ⟨a, p, q.ext e⟩
  | .new xs, v, ⟨a, p, q⟩ => ⟨a, p, q.ext e⟩
theorem VRs.ars {h₀ h : Heap} : ∀ {rs : List Res} {vs : List Value}, VRs h₀ h rs vs → ARs h rs vs
  | [], vs, e => e
  | r :: rs, vs, ⟨v, ws, p, q, t⟩ => ⟨v, ws, p, q.ar, t.ars⟩

inductive AF where
  | nxt | brk | cont
  | ret (r : Res)
def FR (g h : Heap) : AF → Flow → Prop
  | .nxt, f => f = .next
  | .brk, f => f = .brk
  | .cont, f => f = .cont
  | .ret r, f => ∃ v, f = .ret v ∧ VR g h r v

/-- room left -/
structure Rm (n : Nat) (A : Around) : Prop where
  handled : A.handled = none
  depth : A.depth + n < recursionLimit
  units : A.units + 8 * n + 40 < cLine

/-- what a statement may turn -/
structure Stp (env : Env) (σ σ' : Sig) (h h' : Heap) : Prop where
  keep : ∀ b o, h.get? b = some o → b ≠ env.locals → σ b = none → (∀ x, env.cells.lookup x ≠ some b) → h'.get? b = some o
  dom : ∀ b o, h.get? b = some o → ∃ o', h'.get? b = some o'
  sig : ∀ b c, σ' b = some c → (∃ c, σ b = some c) ∨ h.get? b = none
theorem Stp.of_ext {env : Env} {σ : Sig} {h h' : Heap} (e : Ext h h') : Stp env σ σ h h' := ⟨fun b o x _ _ _ => e b o x, fun b o x => ⟨o, e b o x⟩, fun b c x => .inl ⟨c, x⟩⟩
theorem Stp.refl {env : Env} {σ : Sig} {h : Heap} : Stp env σ σ h h := .of_ext (.refl h)
theorem Stp.trans {env : Env} {σ σ' σ'' : Sig} {h h' h'' : Heap} (x : Stp env σ σ' h h') (y : Stp env σ' σ'' h' h'') : Stp env σ σ'' h h'' where
  keep := fun b o e h1 h2 h3 => by
    refine y.keep b o (x.keep b o e h1 h2 h3) h1 ?_ h3
    cases e' : σ' b with
    | none => rfl
    | some c =>
      rcases x.sig b c e' with ⟨c', hc⟩ | hc
      · rw [h2] at hc; cases hc
      · rw [hc] at e; cases e
  dom := fun b o e => let ⟨o', e'⟩ := x.dom b o e; y.dom b o' e'
  sig := fun b c e => by
    rcases y.sig b c e with ⟨c', hc⟩ | hc
    · exact x.sig b c' hc
    · refine .inr ?_
      cases e' : h.get? b with
      | none => rfl
      | some o => obtain ⟨o', e''⟩ := x.dom b o e'; rw [hc] at e''; cases e''
theorem Stp.same {env : Env} {σ σ' : Sig} {h h' : Heap} {a : Addr} (hs : Heap.SameBut a h h') (ha : a = env.locals ∨ (∃ c, σ a = some c) ∨ ∃ x, env.cells.lookup x = some a) (hd : ∃ o, h'.get? a = some o)
    (hsg : ∀ b c, σ' b = some c → ∃ c, σ b = some c) : Stp env σ σ' h h' where
  keep := fun b o e h1 h2 h3 => by
    have hne : b ≠ a := by
      rintro rfl
      rcases ha with h | ⟨c, h⟩ | ⟨x, h⟩
      · exact h1 h
      · rw [h2] at h; cases h
      · exact h3 x h
    exact (hs.2 b hne).trans e
  dom := fun b o e => by
    by_cases hne : b = a
    · subst hne; exact hd
    · exact ⟨o, (hs.2 b hne).trans e⟩
  sig := fun b c e => .inl (hsg b c e)
end Mine

namespace Mine
open PySem PySem.W PySem.Calls PyProof.Rows

/-- the whole setting -/
structure Cx where
  prog : Program
  w : World
  K : Frag
  mg : Str → Option Value
  mb : Str → Option Value
abbrev SX (X : Cx) := St X.prog X.w X.K X.mg X.mb
abbrev GX (X : Cx) := Gl X.K X.mg X.mb

def PE (s : Shared) (Q : Res → Prop) : Value → Shared → Prop := fun v s' => ∃ r h' tk, s' = { s with heap := h', toks := tk } ∧ Ext s.heap h' ∧ VR s.heap h' r v ∧ Q r
def PEs (s : Shared) (Q : List Res → Prop) : List Value → Shared → Prop := fun v s' => ∃ r h' tk, s' = { s with heap := h', toks := tk } ∧ Ext s.heap h' ∧ VRs s.heap h' r v ∧ Q r
def PT (s : Shared) (Q : Bool → Prop) : Bool → Shared → Prop := fun b s' => ∃ h' tk, s' = { s with heap := h', toks := tk } ∧ Ext s.heap h' ∧ Q b
def NoE : Value → Shared → Prop := fun _ _ => False

section
variable (X : Cx) (A : Around) (g : Heap) (env : Env) (ρ : Rho) (σ : Sig)
def Ev (e : Expr) (Q : Res → Prop) : Prop := ∀ s, SX X g env ρ σ s.heap → wpAny (model X.prog X.w) A (eval e env) (PE s Q) NoE s
def Tr (e : Expr) (Q : Bool → Prop) : Prop := ∀ s, SX X g env ρ σ s.heap → wpAny (model X.prog X.w) A (isTrue e env (eval e env)) (PT s Q) NoE s
/-- arguments, items of a display -/
def Es (es : List Expr) (Q : List Res → Prop) : Prop := ∀ (pos : Pos) s, SX X g env ρ σ s.heap → wpAny (model X.prog X.w) A (spliced (backTo pos (starEach es env))) (PEs s Q) NoE s
/-- a tree that gives a value -/
def Ov (t : Sem Value) (Q : Res → Prop) : Prop := ∀ s, SX X g env ρ σ s.heap → wpAny (model X.prog X.w) A t (PE s Q) NoE s
end

section
variable {X : Cx} {A : Around} {g : Heap} {env : Env} {ρ : Rho} {σ : Sig} {E : Value → Shared → Prop}

theorem use {t : Sem Value} {Q : Res → Prop} {s : Shared} (H : wpAny (model X.prog X.w) A t (PE s Q) NoE s) (S : SX X g env ρ σ s.heap) {P : Value → Shared → Prop}
    (k : ∀ v r h' tk, SX X g env ρ σ h' → Ext s.heap h' → VR s.heap h' r v → Q r → P v { s with heap := h', toks := tk }) : wpAny (model X.prog X.w) A t P E s :=
  wpAny_mono H (fun v s' ⟨r, h', tk, e, x, y, z⟩ => by subst e; exact k v r h' tk (S.ext x) x y z) fun _ _ f => f.elim
theorem useT {t : Sem Bool} {Q : Bool → Prop} {s : Shared} (H : wpAny (model X.prog X.w) A t (PT s Q) NoE s) (S : SX X g env ρ σ s.heap) {P : Bool → Shared → Prop}
    (k : ∀ b h' tk, SX X g env ρ σ h' → Ext s.heap h' → Q b → P b { s with heap := h', toks := tk }) : wpAny (model X.prog X.w) A t P E s :=
  wpAny_mono H (fun v s' ⟨h', tk, e, x, z⟩ => by subst e; exact k v h' tk (S.ext x) x z) fun _ _ f => f.elim
theorem useS {t : Sem (List Value)} {Q : List Res → Prop} {s : Shared} (H : wpAny (model X.prog X.w) A t (PEs s Q) NoE s) (S : SX X g env ρ σ s.heap) {P : List Value → Shared → Prop}
    (k : ∀ v r h' tk, SX X g env ρ σ h' → Ext s.heap h' → VRs s.heap h' r v → Q r → P v { s with heap := h', toks := tk }) : wpAny (model X.prog X.w) A t P E s :=
  wpAny_mono H (fun v s' ⟨r, h', tk, e, x, y, z⟩ => by subst e; exact k v r h' tk (S.ext x) x y z) fun _ _ f => f.elim

theorem PE.mk {s : Shared} {Q : Res → Prop} {v : Value} {h' : Heap} {tk : Nat} (r : Res) (x : Ext s.heap h') (y : VR s.heap h' r v) (z : Q r) : PE s Q v { s with heap := h', toks := tk } := ⟨r, h', tk, rfl, x, y, z⟩
theorem PE.lift {s : Shared} {Q : Res → Prop} {v : Value} {h₁ : Heap} {tk : Nat} {s' : Shared} (x : Ext s.heap h₁) (p : PE { s with heap := h₁, toks := tk } Q v s') : PE s Q v s' := by
  obtain ⟨r, h', tk', e, y, z, q⟩ := p
  exact ⟨r, h', tk', e, x.trans y, z.base x, q⟩
theorem PT.lift {s : Shared} {Q : Bool → Prop} {v : Bool} {h₁ : Heap} {tk : Nat} {s' : Shared} (x : Ext s.heap h₁) (p : PT { s with heap := h₁, toks := tk } Q v s') : PT s Q v s' := by
  obtain ⟨h', tk', e, y, q⟩ := p
  exact ⟨h', tk', e, x.trans y, q⟩

theorem Ev.mono {e : Expr} {Q Q' : Res → Prop} (H : Ev X A g env ρ σ e Q) (k : ∀ r, Q r → Q' r) : Ev X A g env ρ σ e Q' := fun s S =>
  use (H s S) S fun v r h' tk S' x y z => .mk r x y (k r z)
theorem Tr.mono {e : Expr} {Q Q' : Bool → Prop} (H : Tr X A g env ρ σ e Q) (k : ∀ r, Q r → Q' r) : Tr X A g env ρ σ e Q' := fun s S =>
  useT (H s S) S fun b h' tk S' x z => ⟨h', tk, rfl, x, k b z⟩

/-! names -/
def varOk (env : Env) (x : Str) : Bool := (env.kindOf x == some .local || env.kindOf x == some .cell || env.kindOf x == some .free) && !(x == ("__debug__" : Str)) && !(x == ("__classdict__" : Str))
theorem loadVar {s : Shared} {x : Str} {d : D} {Q : Value → Shared → Prop} (S : SX X g env ρ σ s.heap) (hl : ρ.lookup x = some d) (ho : varOk env x = true) (k : ∀ v, V s.heap d v → Q v s) :
    wpAny (model X.prog X.w) A (loadName env x) Q E s := by
  simp only [varOk, Bool.and_eq_true, Bool.or_eq_true, beq_iff_eq, Bool.not_eq_true', beq_eq_false_iff_ne, ne_eq] at ho
  obtain ⟨⟨hk, hd⟩, hcd⟩ := ho
  rcases hk with (hk | hk) | hk
  · obtain ⟨m, hn, r⟩ := S.ns
    obtain ⟨v, hv, hV⟩ := r x d hl hk
    exact wpAny_loadName_local S.kind hk hn hv (k v hV)
  · obtain ⟨c, v, hc, hv, hV⟩ := S.cel x d hl (.inl hk)
    exact wpAny_loadName_cell S.kind hk hc hv (k v hV)
  · obtain ⟨c, v, hc, hv, hV⟩ := S.cel x d hl (.inr hk)
    exact wpAny_loadName_free S.kind hk hc hv (k v hV) (by simpa using hcd)
theorem Ev.name {x : Str} {pos : Pos} {Q : Res → Prop} (d : D) (hl : ρ.lookup x = some d) (ho : varOk env x = true) (q : Q (.d d)) : Ev X A g env ρ σ (.Name x pos) Q := fun s S => by
  refine wpAny_Name (loadVar S hl ho fun v hv => .mk (.d d) (.refl _) hv q) ?_
  simp only [varOk, Bool.and_eq_true, Bool.not_eq_true'] at ho
  exact ho.1.2
theorem Ev.nameL {x : Str} {pos : Pos} {Q : Res → Prop} (a : Addr) (xs : List D) (hl : ρ.lookup x = some (.val (.ref a))) (ho : varOk env x = true) (hx : σ a = some (.list xs) ∨ LI g a xs) (q : Q (.lst xs)) :
    Ev X A g env ρ σ (.Name x pos) Q := fun s S => by
  refine wpAny_Name (loadVar S hl ho fun v hv => .mk (.lst xs) (.refl _) ?_ q) ?_
  · simp only [V] at hv
    subst hv
    refine ⟨a, rfl, ?_⟩
    rcases hx with hx | hx
    · exact PL.li (S.own a _ hx).1
    · exact hx.ext S.keep
  · simp only [varOk, Bool.and_eq_true, Bool.not_eq_true'] at ho
    exact ho.1.2
theorem Ev.glob {x : Str} {pos : Pos} {Q : Res → Prop} (v : Value) (hg : X.mg x = some v) (q : Q (.d (.val v))) (hk : env.kindOf x = some .globalImplicit := by rfl) (hd : (x == ("__debug__" : Str)) = false := by decide) :
    Ev X A g env ρ σ (.Name x pos) Q := fun s S =>
  Name_function_global S.kind hk (loadGlobal_global (by rw [S.globals]; exact S.gl.g) hg (.mk (.d (.val v)) (.refl _) (by simp [VR, V]) q)) hd
theorem Ev.builtin {x : Str} {pos : Pos} {Q : Res → Prop} (v : Value) (hg : X.mg x = none) (hb : X.mb x = some v) (q : Q (.d (.val v))) (hk : env.kindOf x = some .globalImplicit := by rfl) (hd : (x == ("__debug__" : Str)) = false := by decide) :
    Ev X A g env ρ σ (.Name x pos) Q := fun s S =>
  Name_function_global S.kind hk (loadGlobal_builtin (by rw [S.globals]; exact S.gl.g) hg (by rw [S.builtins]; exact S.gl.b) hb (.mk (.d (.val v)) (.refl _) (by simp [VR, V]) q)) hd

/-! constants -/
theorem Ev.cint {i : Int} {k : Nat} {pos : Pos} {Q : Res → Prop} (q : Q (.d (.int i))) : Ev X A g env ρ σ (.Constant (.int i) k pos) Q := fun s S =>
  wpAny_Constant_int (.mk (.d (.int i)) (.refl _) (by simp [VR, V]) q)
theorem Ev.cbool {b : Bool} {k : Nat} {pos : Pos} {Q : Res → Prop} (q : Q (.d (.val (.bool b)))) : Ev X A g env ρ σ (.Constant (.bool b) k pos) Q := fun s S =>
  wpAny_Constant_bool (.mk (.d (.val (.bool b))) (.refl _) (by simp [VR, V]) q)
theorem Ev.cnone {k : Nat} {pos : Pos} {Q : Res → Prop} (q : Q (.d (.val .none))) : Ev X A g env ρ σ (.Constant .none k pos) Q := fun s S =>
  wpAny_Constant_none (.mk (.d (.val .none)) (.refl _) (by simp [VR, V]) q)

/-! operators on ints -/
def intOp : Operator → Int → Int → Option Int
  | .Add, a, b => some (a + b)
  | .Sub, a, b => some (a - b)
  | _, _, _ => none
theorem binop_int {op : Operator} {a b c : Int} {t u : Tok} {s : Shared} {Q : Value → Shared → Prop} (h : intOp op a b = some c) (k : Q (.int c s.toks) { s with toks := s.toks + 1 }) :
    wpAny (model X.prog X.w) A (binaryOp op (.int a t) (.int b u)) Q E s :=
  match op, h with
  | .Add, h => by cases h; exact add_int k
  | .Sub, h => by cases h; exact sub_int k
theorem Ev.bin {l r : Expr} {op : Operator} {pos : Pos} {Q : Res → Prop} (H : Ev X A g env ρ σ l (fun a => ∃ i, a = .d (.int i) ∧ Ev X A g env ρ σ r (fun b => ∃ j c, b = .d (.int j) ∧ intOp op i j = some c ∧ Q (.d (.int c))))) :
    Ev X A g env ρ σ (.BinOp l op r pos) Q := fun s S => by
  refine wpAny_BinOp (use (H s S) S fun v a h1 tk1 S1 x1 y1 ⟨i, e, H2⟩ => use (H2 _ S1) S1 fun u b h2 tk2 S2 x2 y2 ⟨j, c, e', ho, q⟩ => ?_)
  subst e e'
  simp only [VR, V] at y1 y2
  obtain ⟨t, rfl⟩ := y1
  obtain ⟨t', rfl⟩ := y2
  exact binop_int ho (.mk (.d (.int c)) (x1.trans x2) (by simp [VR, V]) q)
/-- ints alone, by computation -/
def evI (env : Env) (ρ : Rho) : Expr → Option Int
  | .Constant (.int i) _ _ => some i
  | .Name x _ => if varOk env x then (match ρ.lookup x with | some (.int i) => some i | _ => none) else none
  | .BinOp l op r _ => match evI env ρ l, evI env ρ r with | some a, some b => intOp op a b | _, _ => none
  | .UnaryOp .USub x _ => (evI env ρ x).map fun a => -a
  | _ => none
theorem Ev.neg {x : Expr} {pos : Pos} {Q : Res → Prop} (H : Ev X A g env ρ σ x (fun r => ∃ a, r = .d (.int a) ∧ Q (.d (.int (-a))))) : Ev X A g env ρ σ (.UnaryOp .USub x pos) Q := fun s S => by
  refine wpAny_UnaryOp (use (H s S) S fun v r h1 tk1 S1 x1 y1 ⟨a, e, q⟩ => ?_)
  subst e
  simp only [VR, V] at y1
  obtain ⟨t, rfl⟩ := y1
  exact PyProof.Rows.neg_int (.mk (.d (.int _)) x1 (by simp [VR, V]) q)
theorem Ev.int {e : Expr} {i : Int} : evI env ρ e = some i → ∀ {Q : Res → Prop}, Q (.d (.int i)) → Ev X A g env ρ σ e Q := by
  fun_induction evI env ρ e generalizing i with
  | case1 i' k p => intro h Q q; cases h; exact Ev.cint q
  | case2 x p ho j hj => intro h Q q; cases h; exact Ev.name _ hj ho q
  | case3 => intro h; cases h
  | case4 => intro h; cases h
  | case5 l op r p a b ha hb ihl ihr => 
    intro h Q q
    first
      | exact Ev.bin (ihl ha ⟨_, rfl, ihr hb ⟨_, i, rfl, h, q⟩⟩)
      | exact Ev.bin (ihr ha ⟨_, rfl, ihl hb ⟨_, i, rfl, h, q⟩⟩)
      | exact Ev.bin (ihl hb ⟨_, rfl, ihr ha ⟨_, i, rfl, h, q⟩⟩)
  | case6 => intro h; cases h
  | case7 x p ih => 
    intro h Q q
    simp only [Option.map_eq_some_iff] at h
    obtain ⟨a, ha, rfl⟩ := h
    exact Ev.neg (ih ha ⟨a, rfl, q⟩)
  | case8 => intro h; cases h
end
end Mine

namespace Mine
open PySem PySem.W PySem.Calls PyProof.Rows

theorem VRs.ext {h₀ h h' : Heap} (e : Ext h h') : ∀ {r : List Res} {v : List Value}, VRs h₀ h r v → VRs h₀ h' r v
  | [], v, q => q
  | r :: rs, v, ⟨a, b, p, q, t⟩ => ⟨a, b, p, q.ext e, t.ext e⟩
theorem VRs.base {h₀ h₁ h : Heap} (e : Ext h₀ h₁) : ∀ {r : List Res} {v : List Value}, VRs h₁ h r v → VRs h₀ h r v
  | [], v, q => q
  | r :: rs, v, ⟨a, b, p, q, t⟩ => ⟨a, b, p, q.base e, t.base e⟩
theorem ARs.ext {h h' : Heap} (e : Ext h h') : ∀ {r : List Res} {v : List Value}, ARs h r v → ARs h' r v
  | [], v, q => q
  | r :: rs, v, ⟨a, b, p, q, t⟩ => ⟨a, b, p, q.ext e, t.ext e⟩

section
variable (X : Cx) (A : Around) (g : Heap) (env : Env) (ρ : Rho) (σ : Sig)
/-- a call of a value -/
def CB (f : Value) (rs : List Res) (Q : Res → Prop) : Prop := ∀ s vs, SX X g env ρ σ s.heap → ARs s.heap rs vs → wpAny (model X.prog X.w) A (call f vs) (PE s Q) NoE s
/-- a comparison -/
def CM (op : CmpOp) (a b : Res) (Q : Bool → Prop) : Prop := ∀ s va vb, SX X g env ρ σ s.heap → AR s.heap a va → AR s.heap b vb →
  wpAny (model X.prog X.w) A (compareOp op va vb) (fun v s' => ∃ c h' tk, v = .bool c ∧ s' = { s with heap := h', toks := tk } ∧ Ext s.heap h' ∧ Q c) NoE s
/-- a truth -/
def TV (a : Res) (Q : Bool → Prop) : Prop := ∀ s v, SX X g env ρ σ s.heap → AR s.heap a v → wpAny (model X.prog X.w) A (truthy v) (PT s Q) NoE s
end

section
variable {X : Cx} {A : Around} {g : Heap} {env : Env} {ρ : Rho} {σ : Sig} {E : Value → Shared → Prop}

/-! argument lists -/
theorem Es.nil {Q : List Res → Prop} (q : Q []) : Es X A g env ρ σ [] Q := fun pos s S => args_nil ⟨[], s.heap, s.toks, rfl, .refl _, rfl, q⟩
theorem Es.cons {e : Expr} {rest : List Expr} {Q : List Res → Prop} (H : Ev X A g env ρ σ e (fun r => Es X A g env ρ σ rest (fun rs => Q (r :: rs))))
    (he : starEach (e :: rest) env = (false, eval e env) :: starEach rest env := by rfl) : Es X A g env ρ σ (e :: rest) Q := fun pos s S => by
  refine args_cons (use (H s S) S fun v r h1 tk1 S1 x1 y1 H2 => useS (H2 pos _ S1) S1 fun vs rs h2 tk2 S2 x2 y2 q => ?_) he
  exact ⟨r :: rs, h2, tk2, rfl, x1.trans x2, ⟨v, vs, rfl, y1.ext x2, y2.base x1⟩, q⟩

/-! calls by a built-in's name -/
theorem Ev.callB {x : Str} {id : String} {p pos : Pos} {e : Expr} {rest : List Expr} {Q : Res → Prop} (hg : X.mg x = none) (hb : X.mb x = some (.builtin id))
    (H : Es X A g env ρ σ (e :: rest) (fun rs => CB X A g env ρ σ (.builtin id) rs Q))
    (he : starEach (e :: rest) env = (false, eval e env) :: starEach rest env := by rfl)
    (hplain : (backTo pos (starEach rest env)).any (·.1) = false := by rfl)
    (hk : env.kindOf x = some .globalImplicit := by rfl) (hd : (x == ("__debug__" : Str)) = false := by decide) :
    Ev X A g env ρ σ (.Call (.Name x p) (e :: rest) [] pos) Q := fun s S => by
  have H0 : Ev X A g env ρ σ (.Name x p) (fun r => r = .d (.val (.builtin id))) := Ev.builtin _ hg hb rfl hk hd
  refine Call_ (use (H0 s S) S fun v r h1 tk1 S1 x1 y1 e1 => ?_)
  subst e1
  simp only [VR, V] at y1
  subst y1
  refine PyProof.Rows.callWith_builtin1 (useS (H pos _ S1) S1 fun vs rs h2 tk2 S2 x2 y2 q => ?_) he hplain
  exact wpAny_mono (q _ vs S2 y2.ars) (fun v s' p => PE.lift (x1.trans x2) p) fun _ _ f => f
theorem Ev.callT {x : Str} {T : String} {p pos : Pos} {e : Expr} {rest : List Expr} {Q : Res → Prop} (hg : X.mg x = none) (hb : X.mb x = some (.type T))
    (H : Es X A g env ρ σ (e :: rest) (fun rs => CB X A g env ρ σ (.type T) rs Q))
    (he : starEach (e :: rest) env = (false, eval e env) :: starEach rest env := by rfl)
    (hplain : (backTo pos (starEach rest env)).any (·.1) = false := by rfl)
    (hk : env.kindOf x = some .globalImplicit := by rfl) (hd : (x == ("__debug__" : Str)) = false := by decide) :
    Ev X A g env ρ σ (.Call (.Name x p) (e :: rest) [] pos) Q := fun s S => by
  have H0 : Ev X A g env ρ σ (.Name x p) (fun r => r = .d (.val (.type T))) := Ev.builtin _ hg hb rfl hk hd
  refine Call_ (use (H0 s S) S fun v r h1 tk1 S1 x1 y1 e1 => ?_)
  subst e1
  simp only [VR, V] at y1
  subst y1
  refine PyProof.Rows.callWith_type1 (useS (H pos _ S1) S1 fun vs rs h2 tk2 S2 x2 y2 q => ?_) he hplain
  exact wpAny_mono (q _ vs S2 y2.ars) (fun v s' p => PE.lift (x1.trans x2) p) fun _ _ f => f

/-! functions of the text: their contract -/
def Fn (X : Cx) (n : Nat) (f : Value) (rs : List Res) (Q : Res → Prop) : Prop := ∀ (A : Around) s vs, Rm n A → GX X s.heap → ARs s.heap rs vs → wpAny (model X.prog X.w) A (call f vs) (PE s Q) NoE s
theorem Fn.mono {n : Nat} {f : Value} {rs : List Res} {Q Q' : Res → Prop} (H : Fn X n f rs Q) (k : ∀ r, Q r → Q' r) : Fn X n f rs Q' := fun A s vs hA hg ha =>
  wpAny_mono (H A s vs hA hg ha) (fun v s' ⟨r, h', tk, e, x, y, z⟩ => ⟨r, h', tk, e, x, y, k r z⟩) fun _ _ f => f
theorem Ev.callF {x : Str} {f : Addr} {o : Obj} {fd : FuncData} {n : Nat} {p pos : Pos} {e : Expr} {rest : List Expr} {Q : Res → Prop} (hA : Rm n A) (hg : X.mg x = some (.ref f)) (ho : X.K.lookup f = some o) (hdat : o.data = .func fd)
    (H : Es X A g env ρ σ (e :: rest) (fun rs => Fn X n (.ref f) rs Q))
    (he : starEach (e :: rest) env = (false, eval e env) :: starEach rest env := by rfl)
    (hk : env.kindOf x = some .globalImplicit := by rfl) (hd : (x == ("__debug__" : Str)) = false := by decide) :
    Ev X A g env ρ σ (.Call (.Name x p) (e :: rest) [] pos) Q := fun s S => by
  have H0 : Ev X A g env ρ σ (.Name x p) (fun r => r = .d (.val (.ref f))) := Ev.glob _ hg rfl hk hd
  refine Call_ (use (H0 s S) S fun v r h1 tk1 S1 x1 y1 e1 => ?_)
  subst e1
  simp only [VR, V] at y1
  subst y1
  refine callWith_def (o := o) (fd := fd) hdat (useS (H pos _ S1) S1 fun vs rs h2 tk2 S2 x2 y2 q => ⟨S2.gl.k _ _ ho, ?_⟩) he
  exact wpAny_mono (q A _ vs hA S2.gl y2.ars) (fun v s' p => PE.lift (x1.trans x2) p) fun _ _ f => f

/-! comparisons -/
theorem Ev.cmp {l r : Expr} {op : CmpOp} {pos : Pos} {Q : Res → Prop} (H : Ev X A g env ρ σ l (fun a => Ev X A g env ρ σ r (fun b => CM X A g env ρ σ op a b (fun c => Q (.d (.val (.bool c)))))))
    (hm : behindInMarks op r = false := by with_unfolding_all rfl) : Ev X A g env ρ σ (.Compare l [op] [r] pos) Q := fun s S => by
  refine wpAny_Compare1 (use (H s S) S fun v a h1 tk1 S1 x1 y1 H2 => use (H2 _ S1) S1 fun u b h2 tk2 S2 x2 y2 H3 => ?_) hm
  refine wpAny_mono (H3 _ _ _ S2 (y1.ext x2).ar y2.ar) (fun v s' ⟨c, h', tk, e1, e2, e3, e4⟩ => ?_) fun _ _ f => f
  subst e1 e2
  exact .mk _ (x1.trans (x2.trans e3)) (by simp [VR, V]) e4
theorem Tr.cmp {l r : Expr} {op : CmpOp} {pos : Pos} {Q : Bool → Prop} (H : Ev X A g env ρ σ l (fun a => Ev X A g env ρ σ r (fun b => CM X A g env ρ σ op a b Q)))
    (hm : behindInMarks op r = false := by with_unfolding_all rfl) : Tr X A g env ρ σ (.Compare l [op] [r] pos) Q := fun s S => by
  refine wpAny_isTrue_Compare1 (use (H s S) S fun v a h1 tk1 S1 x1 y1 H2 => use (H2 _ S1) S1 fun u b h2 tk2 S2 x2 y2 H3 => ?_) hm
  refine wpAny_mono (H3 _ _ _ S2 (y1.ext x2).ar y2.ar) (fun v s' ⟨c, h', tk, e1, e2, e3, e4⟩ => ?_) fun _ _ f => f
  subst e1 e2
  exact wpAny_truthy_bool ⟨h', tk, rfl, x1.trans (x2.trans e3), e4⟩
theorem CM.intEq {a b : Int} {Q : Bool → Prop} (q : Q (a == b)) : CM X A g env ρ σ .Eq (.d (.int a)) (.d (.int b)) Q := fun s va vb S ha hb => by
  simp only [AR, V] at ha hb; obtain ⟨t, rfl⟩ := ha; obtain ⟨u, rfl⟩ := hb
  exact eq_int ⟨_, s.heap, s.toks, rfl, rfl, .refl _, q⟩
theorem CM.intNe {a b : Int} {Q : Bool → Prop} (q : Q (a != b)) : CM X A g env ρ σ .NotEq (.d (.int a)) (.d (.int b)) Q := fun s va vb S ha hb => by
  simp only [AR, V] at ha hb; obtain ⟨t, rfl⟩ := ha; obtain ⟨u, rfl⟩ := hb
  exact ne_int ⟨_, s.heap, s.toks, rfl, rfl, .refl _, q⟩
theorem CM.intLt {a b : Int} {Q : Bool → Prop} (q : Q (decide (a < b))) : CM X A g env ρ σ .Lt (.d (.int a)) (.d (.int b)) Q := fun s va vb S ha hb => by
  simp only [AR, V] at ha hb; obtain ⟨t, rfl⟩ := ha; obtain ⟨u, rfl⟩ := hb
  exact lt_int ⟨_, s.heap, s.toks, rfl, rfl, .refl _, q⟩
theorem CM.tupEq {n : Nat} (hA : Rm n A) {a b : List Int} {Q : Bool → Prop} (q : Q (decide (a = b))) : CM X A g env ρ σ .Eq (.d (.tup (a.map .int))) (.d (.tup (b.map .int))) Q := fun s va vb S ha hb => by
  obtain ⟨x, rfl, hx⟩ := key_of_v (prog := X.prog) (w := X.w) ha
  obtain ⟨y, rfl, hy⟩ := key_of_v (prog := X.prog) (w := X.w) hb
  show wpAny _ _ (richCompare .Eq (.ref x) (.ref y)) _ _ s
  have hu : A.units < cLine := by have := hA.units; omega
  exact wpAny_richCompare_same_room (op := .Eq) hx.typeIs hy.typeIs PySem.F.slot_tuple_eq
    (wpAny_call_entry PySem.F.slot_tuple_eq hx.typeIs PySem.F.entry_tuple_eq (tuple_eq_tree hx hy ⟨_, rfl, (fun e => nomatch e), ⟨_, s.heap, s.toks, rfl, rfl, .refl _, q⟩⟩) (PySem.F.args_tuple_eq_2 _ _)) hu
theorem CM.isNot {v : Value} {d : D} {Q : Bool → Prop} (hd : d = .val v ∨ ∃ i, d = .int i) (q : Q (match d with | .val u => !(u == .none) | _ => true)) : CM X A g env ρ σ .IsNot (.d d) (.d (.val .none)) Q := fun s va vb S ha hb => by
  simp only [AR, V] at hb; subst hb
  refine isNot_none ⟨_, s.heap, s.toks, rfl, rfl, .refl _, ?_⟩
  rcases hd with rfl | ⟨i, rfl⟩
  · simp only [AR, V] at ha; subst ha; exact q
  · simp only [AR, V] at ha; obtain ⟨t, rfl⟩ := ha; exact q
theorem CM.notInT {n m : Nat} (hA : Rm n A) {a : Addr} {f : List Int → Option D} {k : List Int} {Q : Bool → Prop} (hσ : σ a = some (.dT m f)) (q : Q (!(f k).isSome)) :
    CM X A g env ρ σ .NotIn (.d (.tup (k.map .int))) (.d (.val (.ref a))) Q := fun s va vb S ha hb => by
  simp only [AR, V] at hb; subst hb
  obtain ⟨x, rfl, hx⟩ := key_of_v (prog := X.prog) (w := X.w) ha
  obtain ⟨hsm, xs, hm, hlen, hf⟩ := (S.own a _ hσ).1
  have hu : A.units + 1 < cLine := by have := hA.units; omega
  have hc : (f k).isSome = (atKey xs k).isSome := by
    have := hf k
    cases hfk : f k with
    | none => rw [hfk] at this; simp only [OV, Option.map_eq_none_iff] at this; rw [this]; rfl
    | some d => rw [hfk] at this; obtain ⟨v, e, _⟩ := this; cases ha : atKey xs k <;> simp_all
  show wpAny _ _ ((do return Value.bool (!(← contains (.ref a) (.ref x)))) : Sem Value) _ _ s
  refine wpAny_bind ?_
  unfold contains
  try with_reducible refine wpAny_holding ?_
  refine wpAny_bind (wpAny_specialOf hm.typeIs slot_dict_contains.lookup ?_)
  show wpAny _ _ (if (some (Value.builtin "dict.__contains__") == some Value.none) = true then _ else _) _ _ s
  rw [if_neg (by rw [beq_builtin_none]; exact Bool.false_ne_true)]
  refine wpAny_bind (wpAny_callSpecialUnlessNone?_slot (name := Str.ofString "__contains__") hm.typeIs slot_dict_contains
    (wpAny_call_entry slot_dict_contains hm.typeIs entry_dict_contains ?_ (args_dict_contains _ _)))
  show wpAny _ _ (dictGet a (.ref x) >>= _) _ _ s
  refine wpAny_bind (wpAny_dictGet_heap (knd := tk X.prog X.w) (tupleKind_room_in1 hu) hx hm ?_)
  cases hfk : atKey xs k with
  | some p =>
    rw [hfk] at hc
    show wpAny _ _ (ret (.bool true)) _ _ _
    refine wpAny_pure ⟨_, rfl, wpAny_truthy_bool (wpAny_pure ⟨_, _, _, rfl, rfl, .refl _, ?_⟩)⟩
    rw [hc] at q; exact q
  | none =>
    rw [hfk] at hc
    show wpAny _ _ (Builtin.Dict.pendingKey? a (.ref x) >>= _) _ _ _
    refine wpAny_bind (wpAny_pendingKey_other hsm (wpAny_pure ⟨_, rfl, wpAny_truthy_bool (wpAny_pure ⟨_, _, _, rfl, rfl, .refl _, ?_⟩)⟩))
    rw [hc] at q; exact q

/-! truths -/
theorem Tr.plain {e : Expr} {Q : Bool → Prop} (H : Ev X A g env ρ σ e (fun a => TV X A g env ρ σ a Q))
    (he : ∀ whole, isTrue e env whole = (do let v ← whole; standAt e.pos; holding [v] (truthy v)) := by intro; rfl) : Tr X A g env ρ σ e Q := fun s S => by
  refine wpAny_isTrue_value (use (H s S) S fun v a h1 tk1 S1 x1 y1 H2 => ?_) (he _)
  exact wpAny_mono (H2 _ _ S1 y1.ar) (fun b s' p => PT.lift x1 p) fun _ _ f => f
theorem Tr.not {e : Expr} {pos : Pos} {Q : Bool → Prop} (H : Tr X A g env ρ σ e (fun b => Q (!b))) : Tr X A g env ρ σ (.UnaryOp .Not e pos) Q := fun s S =>
  wpAny_isTrue_Not (useT (H s S) S fun b h1 tk1 S1 x1 q => ⟨h1, tk1, rfl, x1, q⟩)
theorem Tr.or2 {x y : Expr} {pos : Pos} {Q : Bool → Prop} (H : Tr X A g env ρ σ x (fun b => if b then Q true else Tr X A g env ρ σ y Q)) : Tr X A g env ρ σ (.BoolOp .Or [x, y] pos) Q := fun s S => by
  refine wpAny_isTrue_BoolOp (wpAny_allTrue_Or_cons (useT (H s S) S fun b h1 tk1 S1 x1 q => ?_))
  cases b with
  | true => exact ⟨h1, tk1, rfl, x1, q⟩
  | false =>
    refine wpAny_allTrue_Or_cons (useT (q _ S1) S1 fun b h2 tk2 S2 x2 q2 => ?_)
    cases b with
    | true => exact ⟨h2, tk2, rfl, x1.trans x2, q2⟩
    | false => exact wpAny_allTrue_Or_nil ⟨h2, tk2, rfl, x1.trans x2, q2⟩
theorem TV.bool {b : Bool} {Q : Bool → Prop} (q : Q b) : TV X A g env ρ σ (.d (.val (.bool b))) Q := fun s v S h => by
  simp only [AR, V] at h; subst h; exact wpAny_truthy_bool ⟨s.heap, s.toks, rfl, .refl _, q⟩
theorem TV.none {Q : Bool → Prop} (q : Q false) : TV X A g env ρ σ (.d (.val .none)) Q := fun s v S h => by
  simp only [AR, V] at h; subst h; exact truthy_none ⟨s.heap, s.toks, rfl, .refl _, q⟩
theorem TV.int {i : Int} {Q : Bool → Prop} (q : Q (i != 0)) : TV X A g env ρ σ (.d (.int i)) Q := fun s v S h => by
  simp only [AR, V] at h; obtain ⟨t, rfl⟩ := h; exact PyProof.Rows.truthy_int ⟨s.heap, s.toks, rfl, .refl _, q⟩
theorem TV.list {xs : List D} {Q : Bool → Prop} (hl : xs.length < 2 ^ 20) (q : Q (!xs.isEmpty)) : TV X A g env ρ σ (.lst xs) Q := fun s v S h => by
  obtain ⟨a, rfl, items, hi, hv⟩ := h
  have hz : items.size = xs.length := by rw [hv.length]; simp
  refine wpAny_truthy_list hi (by omega) ⟨s.heap, _, rfl, .refl _, ?_⟩
  have : items.isEmpty = xs.isEmpty := by rw [Array.isEmpty, hz]; cases xs <;> simp
  rw [this]; exact q
theorem TV.new {xs : List D} {Q : Bool → Prop} (hl : xs.length < 2 ^ 20) (q : Q (!xs.isEmpty)) : TV X A g env ρ σ (.new xs) Q := fun s v S h => TV.list hl q s v S h
theorem TV.tup {xs : List D} {Q : Bool → Prop} (hl : xs.length < 2 ^ 20) (q : Q (!xs.isEmpty)) : TV X A g env ρ σ (.d (.tup xs)) Q := fun s v S h => by
  simp only [AR, V] at h
  obtain ⟨a, items, rfl, hi, hv⟩ := h
  have hz : items.size = xs.length := by rw [hv.length]; simp
  refine truthy_tuple hi (by omega) ⟨s.heap, _, rfl, .refl _, ?_⟩
  have : items.isEmpty = xs.isEmpty := by rw [Array.isEmpty, hz]; cases xs <;> simp
  rw [this]; exact q

/-! choice -/
theorem Ev.ife {t b o : Expr} {pos : Pos} {Q : Res → Prop} (H : Tr X A g env ρ σ t (fun c => if c then Ev X A g env ρ σ b Q else Ev X A g env ρ σ o Q)) : Ev X A g env ρ σ (.IfExp t b o pos) Q := fun s S => by
  refine wpAny_IfExp (useT (H s S) S fun c h1 tk1 S1 x1 q => ?_)
  cases c with
  | true => exact wpAny_mono (q _ S1) (fun v s' p => PE.lift x1 p) fun _ _ f => f
  | false => exact wpAny_mono (q _ S1) (fun v s' p => PE.lift x1 p) fun _ _ f => f
theorem Ev.or2 {x y : Expr} {pos : Pos} {Q : Res → Prop} (H : Ev X A g env ρ σ x (fun r => TV X A g env ρ σ r (fun b => if b then Q r else Ev X A g env ρ σ y Q))) : Ev X A g env ρ σ (.BoolOp .Or [x, y] pos) Q := fun s S => by
  refine wpAny_Or2 (use (H s S) S fun v r h1 tk1 S1 x1 y1 H2 => useT (H2 _ _ S1 y1.ar) S1 fun b h2 tk2 S2 x2 q => ?_)
  cases b with
  | true => exact .mk r (x1.trans x2) (y1.ext x2) q
  | false => exact wpAny_mono (q _ S2) (fun v s' p => PE.lift (x1.trans x2) p) fun _ _ f => f
theorem Ev.and2 {x y : Expr} {pos : Pos} {Q : Res → Prop} (H : Ev X A g env ρ σ x (fun r => TV X A g env ρ σ r (fun b => if b then Ev X A g env ρ σ y Q else Q r))) : Ev X A g env ρ σ (.BoolOp .And [x, y] pos) Q := fun s S => by
  refine wpAny_And2 (use (H s S) S fun v r h1 tk1 S1 x1 y1 H2 => useT (H2 _ _ S1 y1.ar) S1 fun b h2 tk2 S2 x2 q => ?_)
  cases b with
  | false => exact .mk r (x1.trans x2) (y1.ext x2) q
  | true => exact wpAny_mono (q _ S2) (fun v s' p => PE.lift (x1.trans x2) p) fun _ _ f => f
theorem Ev.not {x : Expr} {pos : Pos} {Q : Res → Prop} (H : Ev X A g env ρ σ x (fun r => TV X A g env ρ σ r (fun b => Q (.d (.val (.bool (!b))))))) : Ev X A g env ρ σ (.UnaryOp .Not x pos) Q := fun s S => by
  refine wpAny_UnaryOp (use (H s S) S fun v r h1 tk1 S1 x1 y1 H2 => not_value (useT (H2 _ _ S1 y1.ar) S1 fun b h2 tk2 S2 x2 q => ?_))
  exact .mk _ (x1.trans x2) (by simp [VR, V]) q

/-! len, min, max, int -/
theorem CB.lenL {xs : List D} {Q : Res → Prop} (hl : xs.length < 2 ^ 20) (q : Q (.d (.int xs.length))) : CB X A g env ρ σ (.builtin "len") [.lst xs] Q := fun s vs S h => by
  obtain ⟨v, ws, rfl, ⟨a, rfl, items, hi, hv⟩, rfl⟩ := h
  have hz : items.size = xs.length := by rw [hv.length]; simp
  exact call_len_list hi (by omega) (.mk (.d (.int xs.length)) (.refl _) (by simp [VR, V, hz]) q)
theorem CB.lenT {xs : List D} {Q : Res → Prop} (hl : xs.length < 2 ^ 20) (q : Q (.d (.int xs.length))) : CB X A g env ρ σ (.builtin "len") [.d (.tup xs)] Q := fun s vs S h => by
  obtain ⟨v, ws, rfl, h1, rfl⟩ := h
  simp only [AR, V] at h1
  obtain ⟨a, items, rfl, hi, hv⟩ := h1
  have hz : items.size = xs.length := by rw [hv.length]; simp
  exact len_tuple hi (by omega) (.mk (.d (.int xs.length)) (.refl _) (by simp [VR, V, hz]) q)
theorem CB.int {i : Int} {Q : Res → Prop} (q : Q (.d (.int i))) : CB X A g env ρ σ (.type "int") [.d (.int i)] Q := fun s vs S h => by
  obtain ⟨v, ws, rfl, h1, rfl⟩ := h
  simp only [AR, V] at h1
  obtain ⟨t, rfl⟩ := h1
  exact call_int_int (.mk (.d (.int i)) (.refl _) (by simp [VR, V]) q)
end
end Mine

namespace Mine
open PySem PySem.W PySem.Calls PyProof.Rows

theorem seqIndex_nat (k : Int) (n : Nat) (h0 : 0 ≤ k) (h1 : k < n) : seqIndex? k n = some k.toNat := by
  unfold seqIndex?
  have : ¬ k < 0 := by omega
  simp [this]
  omega

section
variable {X : Cx} {A : Around} {g : Heap} {env : Env} {ρ : Rho} {σ : Sig} {E : Value → Shared → Prop}

/-! items -/
theorem Ev.itemL {value slice : Expr} {pos : Pos} {Q : Res → Prop}
    (H : Ev X A g env ρ σ value (fun r => ∃ xs, (r = .lst xs ∨ r = .new xs) ∧ Ev X A g env ρ σ slice (fun j => ∃ k d, j = .d (.int k) ∧ 0 ≤ k ∧ k < 2 ^ 62 ∧ xs[k.toNat]? = some d ∧ Q (.d d))))
    (hs : ∀ a k u, subscripted slice false (.ref a) (.int k u) = operate [.ref a, .int k u] (getItem (.ref a) (.int k u)) := by intros; with_unfolding_all rfl) :
    Ev X A g env ρ σ (.Subscript value slice pos) Q := fun s S => by
  refine Subscript_ (use (H s S) S fun v r h1 tk1 S1 x1 y1 ⟨xs, hr, H2⟩ => use (H2 _ S1) S1 fun u j h2 tk2 S2 x2 y2 ⟨k, d, hj, h0, hb, hx, q⟩ => ?_)
  have y1' : ∃ a, v = .ref a ∧ LI h1 a xs := by
    rcases hr with rfl | rfl
    · exact y1
    · obtain ⟨a, e, _, p⟩ := y1; exact ⟨a, e, p.li⟩
  obtain ⟨a, rfl, hl⟩ := y1'
  subst hj
  simp only [VR, V] at y2
  obtain ⟨t, rfl⟩ := y2
  obtain ⟨items, hi, hv⟩ := hl.ext x2
  obtain ⟨w, hw, hV⟩ := hv.get _ _ hx
  have hi2 : Heap.IsList (Shared.heap { s with heap := h2, toks := tk2 }) a items := hi
  refine tail_any hi2.typeIs slot_list_getitem.lookup (wpAny_getItem_list (x := w) hi2 h0 (by omega) (by simpa using hw) ?_) (hs _ _ _)
  exact .mk (.d d) (x1.trans x2) hV q
theorem Ev.itemT {value slice : Expr} {pos : Pos} {Q : Res → Prop}
    (H : Ev X A g env ρ σ value (fun r => ∃ xs, r = .d (.tup xs) ∧ Ev X A g env ρ σ slice (fun j => ∃ k d, j = .d (.int k) ∧ 0 ≤ k ∧ k < 2 ^ 62 ∧ xs[k.toNat]? = some d ∧ Q (.d d))))
    (hs : ∀ a k u, subscripted slice false (.ref a) (.int k u) = operate [.ref a, .int k u] (getItem (.ref a) (.int k u)) := by intros; with_unfolding_all rfl) :
    Ev X A g env ρ σ (.Subscript value slice pos) Q := fun s S => by
  refine Subscript_ (use (H s S) S fun v r h1 tk1 S1 x1 y1 ⟨xs, hr, H2⟩ => use (H2 _ S1) S1 fun u j h2 tk2 S2 x2 y2 ⟨k, d, hj, h0, hb, hx, q⟩ => ?_)
  subst hr
  have y1' := y1.ext x2
  simp only [VR, V] at y1'
  obtain ⟨a, items, rfl, hi, hv⟩ := y1'
  subst hj
  simp only [VR, V] at y2
  obtain ⟨t, rfl⟩ := y2
  obtain ⟨w, hw, hV⟩ := hv.get _ _ hx
  have hi2 : IsTup (Shared.heap { s with heap := h2, toks := tk2 }) a items := hi
  have hlt : k.toNat < items.size := by
    have := (List.getElem?_eq_some_iff.mp hw).1
    simpa using this
  refine tail_any hi2.typeIs slot_tuple_getitem.lookup (getItem_tuple (x := w) hi2 (by omega) (by omega) (seqIndex_nat k _ h0 (by omega)) (by simpa using hw) ?_) (hs _ _ _)
  exact .mk (.d d) (x1.trans x2) hV q
/-- d[i, j] -/
theorem Ev.itemD {value slice : Expr} {pos : Pos} {n : Nat} {Q : Res → Prop} (hA : Rm n A)
    (H : Ev X A g env ρ σ value (fun r => ∃ a m f, r = .d (.val (.ref a)) ∧ σ a = some (.dT m f) ∧ Ev X A g env ρ σ slice (fun j => ∃ k d, j = .d (.tup (k.map .int)) ∧ f k = some d ∧ Q (.d d))))
    (hs : ∀ a k, subscripted slice false (.ref a) (.ref k) = operate [.ref a, .ref k] (getItem (.ref a) (.ref k)) := by intros; with_unfolding_all rfl) :
    Ev X A g env ρ σ (.Subscript value slice pos) Q := fun s S => by
  refine Subscript_ (use (H s S) S fun v r h1 tk1 S1 x1 y1 ⟨a, m, f, hr, hσ, H2⟩ => use (H2 _ S1) S1 fun u j h2 tk2 S2 x2 y2 ⟨k, d, hj, hf, q⟩ => ?_)
  subst hr hj
  simp only [VR, V] at y1
  subst y1
  obtain ⟨b, rfl, hb⟩ := key_of_v (prog := X.prog) (w := X.w) y2
  obtain ⟨hsm, xs, hm, hlen, hfs⟩ := (S2.own a _ hσ).1
  have hk := hfs k
  rw [hf] at hk
  obtain ⟨w, hw, hV⟩ := hk
  simp only [Option.map_eq_some_iff] at hw
  obtain ⟨p, hp, rfl⟩ := hw
  have hu : A.units + 1 < cLine := by have := hA.units; omega
  have hm2 : Heap.DictOfH (tk X.prog X.w) (Shared.heap { s with heap := h2, toks := tk2 }) a xs := hm
  refine tail_any hm2.typeIs slot_dict_getitem.lookup (wpAny_getItem_heap (knd := tk X.prog X.w) (tupleKind_room_in1 hu) hb hm2 hp ?_) (hs _ _)
  exact .mk (.d d) (x1.trans x2) hV q

/-! displays -/
theorem vs_of_rs {h₀ h : Heap} : ∀ {ds : List D} {vs : List Value}, VRs h₀ h (ds.map .d) vs → Vs h ds vs
  | [], vs, e => by simp only [List.map_nil, VRs] at e; subst e; exact .nil
  | d :: ds, vs, e => by
    simp only [List.map_cons, VRs] at e
    obtain ⟨v, ws, rfl, p, q⟩ := e
    exact .cons p (vs_of_rs q)
theorem Ev.tuple {elts : List Expr} {k : Nat} {pos : Pos} {Q : Res → Prop} (H : Es X A g env ρ σ elts (fun rs => ∃ ds, rs = ds.map .d ∧ ds.length < 2 ^ 20 ∧ Q (.d (.tup ds)))) : Ev X A g env ρ σ (.Tuple elts k pos) Q := fun s S => by
  refine wpAny_Tuple (useS (H pos s S) S fun vs rs h1 tk1 S1 x1 y1 ⟨ds, e, hl, q⟩ => ?_)
  subst e
  have hv := vs_of_rs y1
  refine ⟨by rw [← hv.length]; have : sizeLine = 2 ^ 24 := rfl; omega, .mk (.d (.tup ds)) (x1.trans (Ext.push _ _)) ?_ q⟩
  simp only [VR, V]
  exact ⟨_, vs.toArray, rfl, IsTup.new _ _, by simpa using hv.mono (Ext.push _ _).tg⟩
theorem Ev.list {elts : List Expr} {pos : Pos} {Q : Res → Prop} (H : Es X A g env ρ σ elts (fun rs => ∃ ds, rs = ds.map .d ∧ ds.length < 2 ^ 20 ∧ Q (.new ds))) : Ev X A g env ρ σ (.List elts pos) Q := fun s S => by
  refine wpAny_List (useS (H pos s S) S fun vs rs h1 tk1 S1 x1 y1 ⟨ds, e, hl, q⟩ => ?_)
  subst e
  have hv := vs_of_rs y1
  refine ⟨by rw [← hv.length]; have : sizeLine = 2 ^ 24 := rfl; omega, .mk (.new ds) (x1.trans (Ext.push _ _)) ⟨_, rfl, x1.none (Heap.get?_none_of_le (Nat.le_refl _)), vs.toArray, ⟨0, Heap.get?_push_size _ rfl⟩, by simpa using hv.mono (Ext.push _ _).tg⟩ q⟩
/-- a tuple of ints, by computation -/
def evIs (env : Env) (ρ : Rho) : List Expr → Option (List Int)
  | [] => some []
  | e :: r => match evI env ρ e, evIs env ρ r with | some a, some b => some (a :: b) | _, _ => none
theorem evI_star {e : Expr} {env : Env} {ρ : Rho} {i : Int} (h : evI env ρ e = some i) (rest : List Expr) : starEach (e :: rest) env = (false, eval e env) :: starEach rest env := by
  unfold evI at h
  split at h <;> first | rfl | cases h
theorem Es.ints {es : List Expr} : ∀ {is : List Int} {Q : List Res → Prop}, evIs env ρ es = some is → Q (is.map fun i => .d (.int i)) → Es X A g env ρ σ es Q := by
  induction es with
  | nil => intro is Q h q; cases h; exact Es.nil q
  | cons e es ih =>
    intro is Q h q
    simp only [evIs] at h
    split at h
    · rename_i a b ha hb
      cases h
      exact Es.cons (Ev.int ha (ih hb q)) (evI_star ha _)
    · cases h
theorem Ev.ints {elts : List Expr} {k : Nat} {pos : Pos} {Q : Res → Prop} {is : List Int} (h : evIs env ρ elts = some is) (hl : is.length < 2 ^ 20) (q : Q (.d (.tup (is.map .int)))) : Ev X A g env ρ σ (.Tuple elts k pos) Q :=
  Ev.tuple (Es.ints h ⟨is.map .int, by simp, by simpa using hl, q⟩)

/-! tuples joined -/
theorem Ev.cat {l r : Expr} {pos : Pos} {Q : Res → Prop} (H : Ev X A g env ρ σ l (fun a => ∃ xs, a = .d (.tup xs) ∧ Ev X A g env ρ σ r (fun b => ∃ ys, b = .d (.tup ys) ∧ xs.length + ys.length < 2 ^ 20 ∧ Q (.d (.tup (xs ++ ys)))))) :
    Ev X A g env ρ σ (.BinOp l .Add r pos) Q := fun s S => by
  refine wpAny_BinOp (use (H s S) S fun v a h1 tk1 S1 x1 y1 ⟨xs, e, H2⟩ => use (H2 _ S1) S1 fun u b h2 tk2 S2 x2 y2 ⟨ys, e', hl, q⟩ => ?_)
  subst e e'
  have y1' := y1.ext x2
  simp only [VR, V] at y1' y2
  obtain ⟨t, items, rfl, ⟨⟨cls, dd, data, sl⟩, ho, hc, n, hd⟩, hv⟩ := y1'
  obtain ⟨t2, items2, rfl, ⟨⟨cls2, dd2, data2, sl2⟩, ho2, hc2, n2, hd2⟩, hv2⟩ := y2
  simp only at hc hd hc2 hd2
  subst hc hd hc2 hd2
  have hz : items.size = xs.length := by rw [hv.length]; simp
  have hz2 : items2.size = ys.length := by rw [hv2.length]; simp
  have hx12 := x1.trans x2
  have f1 : Shared.TypeIs { s with heap := h2, toks := tk2 } (.ref t) "tuple" := ⟨_, ho, rfl⟩
  have f2 : Shared.TypeIs { s with heap := h2, toks := tk2 } (.ref t2) "tuple" := ⟨_, ho2, rfl⟩
  have hsl : sizeLine = 2 ^ 24 := rfl
  by_cases he : items.isEmpty = true
  · have : xs = [] := by
      have h0 : items.size = 0 := by simpa [Array.isEmpty] using he
      exact List.length_eq_zero_iff.mp (by omega)
    subst this
    refine concat_meets f1 f2 noFill_tuple_add seq_tuple_add PySem.F.slot_tuple_add PySem.F.entry_tuple_add (PySem.F.args_tuple_add_2 _ _) (tuple_addW0 t t2 items items2 n n2 dd dd2 sl sl2 he) ⟨ho, ho2, ?_⟩
    refine .mk (.d (.tup _)) hx12 ?_ q
    simp only [VR, V]
    exact ⟨t2, items2, rfl, ⟨_, ho2, rfl, _, rfl⟩, by simpa using hv2⟩
  · by_cases he2 : items2.isEmpty = true
    · have : ys = [] := by
        have h0 : items2.size = 0 := by simpa [Array.isEmpty] using he2
        exact List.length_eq_zero_iff.mp (by omega)
      subst this
      refine concat_meets f1 f2 noFill_tuple_add seq_tuple_add PySem.F.slot_tuple_add PySem.F.entry_tuple_add (PySem.F.args_tuple_add_2 _ _) (tuple_addW1 t t2 items items2 n n2 dd dd2 sl sl2 he he2) ⟨ho, ho2, ?_⟩
      refine .mk (.d (.tup _)) hx12 ?_ q
      simp only [VR, V]
      exact ⟨t, items, rfl, ⟨_, ho, rfl, _, rfl⟩, by simpa using hv⟩
    · refine concat_meets f1 f2 noFill_tuple_add seq_tuple_add PySem.F.slot_tuple_add PySem.F.entry_tuple_add (PySem.F.args_tuple_add_2 _ _) (tuple_addW2 t t2 items items2 n n2 dd dd2 sl sl2 he he2 (by omega)) ⟨ho, ho2, ?_⟩
      refine .mk (.d (.tup _)) (hx12.trans (Ext.push _ _)) ?_ q
      simp only [VR, V]
      refine ⟨_, items ++ items2, rfl, IsTup.new _ _, ?_⟩
      rw [Array.toList_append]
      exact (hv.append hv2).mono (Ext.push _ _).tg

/-! min, max of ints -/
theorem argBest_lt (f : Nat → Int) : ∀ k, argBest (fun i j => decide (f i < f j)) k ≤ k ∧ ∀ i, i ≤ k → f (argBest (fun i j => decide (f i < f j)) k) ≤ f i
  | 0 => ⟨Nat.le_refl _, fun i hi => by have : i = 0 := by omega
                                        subst this; exact Int.le_refl _⟩
  | k + 1 => by
    obtain ⟨h1, h2⟩ := argBest_lt f k
    unfold argBest
    by_cases hb : f (k + 1) < f (argBest (fun i j => decide (f i < f j)) k)
    · simp only [hb, decide_true, if_true]
      refine ⟨Nat.le_refl _, fun i hi => ?_⟩
      rcases Nat.lt_or_ge i (k + 1) with h | h
      · have := h2 i (by omega); omega
      · have : i = k + 1 := by omega
        subst this; exact Int.le_refl _
    · simp only [hb, decide_false, Bool.false_eq_true, if_false]
      refine ⟨by omega, fun i hi => ?_⟩
      rcases Nat.lt_or_ge i (k + 1) with h | h
      · exact h2 i (by omega)
      · have : i = k + 1 := by omega
        subst this; omega
theorem args_min4 (a b c d : Value) : argsOk "min" ⟨[a, b, c, d], []⟩ := by unfold argsOk; kernel_rfl
theorem min_four {a b c d : Int} {t u x y : Tok} {s : Shared} {Q : Value → Shared → Prop} (hh : A.handled = none)
    (h : ∀ h' tk t', Ext s.heap h' → Q (.int (min (min (min a b) c) d) t') { s with heap := h', toks := tk }) :
    wpAny (model X.prog X.w) A (call (.builtin "min") [.int a t, .int b u, .int c x, .int d y]) Q E s := by
  have hname : (toString "min" ++ toString ".loop" : String) = "min.loop" := by decide
  let xs : Array (Int × Tok) := #[(a, t), (b, u), (c, x), (d, y)]
  let o : Obj := { cls := .type "tuple", data := .seq #[.int a t, .int b u, .int c x, .int d y] }
  have hT : (s.heap.push o).IsTuple s.heap.objs.size (intItems xs) := ⟨_, Heap.get?_push_size _ rfl, rfl, 0, by simp [intItems, xs, o]⟩
  have hsz : (s.heap.push o).objs.size = s.heap.objs.size + 1 := Heap.size_push ..
  refine call_function_tree PySem.F.kind_min PySem.F.plain_min PySem.F.entry_min (args_min4 _ _ _ _) ?_
  show wpAny _ A.in1 (Builtin.Builtins.bindParams "min" ["key", "default"] 0 ⟨[], []⟩ >>= _) _ _ s
  refine wpAny_bind (wpAny_of_eq (show Builtin.Builtins.bindParams "min" ["key", "default"] 0 ⟨[], []⟩ = pure [none, none] from rfl) ?_)
  show wpAny _ A.in1 (newTuple [.int a t, .int b u, .int c x, .int d y] >>= _) _ _ s
  refine wpAny_bind (wpAny_newObj_type ?_)
  refine wpAny_bind (wpAny_pyIter_tuple (s := { s with heap := s.heap.push o }) hT ?_)
  refine wpAny_bind (wpAny_newObj_type ?_)
  rw [hname]
  have W := Walks.tuple (prog := X.prog) (w := X.w) (A := A.in1) hh (s.heap.push o).objs.size s.heap.objs.size (by rw [hsz]; exact Nat.ne_of_lt (Nat.lt_succ_self _)) (intItems xs)
  have hn : (intItems xs).size = 4 := by simp [intItems, xs]
  refine wpAny_pure ⟨plainId_quiet PySem.F.plain_min_loop _, codeAny_min_loop_first W (fun i j => decide (numAt xs i < numAt xs j)) (CmpOf.ints_lt (numAt xs) (fun _ _ => intItems_at)) _ (fun hm => ?_) (by omega)
    ⟨⟨_, Heap.get?_push_of_some _ (Heap.get?_push_size _ rfl), rfl, rfl⟩, (hT.push _).push _⟩ (Heap.get?_push_size _ rfl) fun v h' tk' hP hk => ?_⟩
  · have h3 : ((s.heap.push o).push { cls := .type "tuple_iterator", data := .fields #[.ref s.heap.objs.size, .int 0 0] }).objs.size = s.heap.objs.size + 2 := by rw [Heap.size_push, hsz]
    have hm' := hm
    simp only [List.mem_cons, List.not_mem_nil, or_false] at hm'
    rcases hm' with e | e
    · have e' : ((s.heap.push o).push { cls := .type "tuple_iterator", data := .fields #[.ref s.heap.objs.size, .int 0 0] }).objs.size = (s.heap.push o).objs.size := e
      rw [h3, hsz] at e'; exact absurd e' (by omega)
    · have e' : ((s.heap.push o).push { cls := .type "tuple_iterator", data := .fields #[.ref s.heap.objs.size, .int 0 0] }).objs.size = s.heap.objs.size := e
      rw [h3] at e'; exact absurd e' (by omega)
  · obtain ⟨t', rfl⟩ := intItems_at hP
    have hb := argBest_lt (numAt xs) 3
    have e : numAt xs (argBest (fun i j => decide (numAt xs i < numAt xs j)) ((intItems xs).size - 1)) = min (min (min a b) c) d := by
      rw [hn]
      obtain ⟨h1, h2⟩ := hb
      have g0 := h2 0 (by omega); have g1 := h2 1 (by omega); have g2 := h2 2 (by omega); have g3 := h2 3 (by omega)
      have m0 : numAt xs 0 = a := rfl
      have m1 : numAt xs 1 = b := rfl
      have m2 : numAt xs 2 = c := rfl
      have m3 : numAt xs 3 = d := rfl
      have h1' : argBest (fun i j => decide (numAt xs i < numAt xs j)) 3 = 0 ∨ argBest (fun i j => decide (numAt xs i < numAt xs j)) 3 = 1 ∨ argBest (fun i j => decide (numAt xs i < numAt xs j)) 3 = 2 ∨ argBest (fun i j => decide (numAt xs i < numAt xs j)) 3 = 3 := by omega
      rw [m0] at g0; rw [m1] at g1; rw [m2] at g2; rw [m3] at g3
      show numAt xs (argBest (fun i j => decide (numAt xs i < numAt xs j)) 3) = _
      rcases h1' with e | e | e | e <;> rw [e] at g0 g1 g2 g3 ⊢ <;> simp only [m0, m1, m2, m3] at g0 g1 g2 g3 ⊢ <;> omega
    rw [e]
    refine h h' tk' t' fun b o' e => hk b o' (fun hm => ?_) ?_ (Heap.get?_push_of_some _ (Heap.get?_push_of_some _ (Heap.get?_push_of_some _ e)))
    · have hl : b < s.heap.objs.size := Heap.lt_size e
      have hm' : b = (s.heap.push o).objs.size := List.mem_singleton.mp hm
      rw [hsz] at hm'
      exact absurd hm' (Nat.ne_of_lt (Nat.lt_succ_of_lt hl))
    · have hl : b < s.heap.objs.size := Heap.lt_size e
      have h3 : ((s.heap.push o).push { cls := .type "tuple_iterator", data := .fields #[.ref s.heap.objs.size, .int 0 0] }).objs.size = s.heap.objs.size + 2 := by rw [Heap.size_push, hsz]
      intro e'
      have e2 : b = ((s.heap.push o).push { cls := .type "tuple_iterator", data := .fields #[.ref s.heap.objs.size, .int 0 0] }).objs.size := e'
      rw [h3] at e2
      exact absurd e2 (Nat.ne_of_lt (Nat.lt_succ_of_lt (Nat.lt_succ_of_lt hl)))
theorem CB.min2 {n : Nat} (hA : Rm n A) {a b : Int} {Q : Res → Prop} (q : Q (.d (.int (min a b)))) : CB X A g env ρ σ (.builtin "min") [.d (.int a), .d (.int b)] Q := fun s vs S h => by
  obtain ⟨v, ws, rfl, h1, v2, ws2, rfl, h2, rfl⟩ := h
  simp only [AR, V] at h1 h2
  obtain ⟨t, rfl⟩ := h1; obtain ⟨u, rfl⟩ := h2
  refine min_two_ints hA.handled fun h' tk e => .mk (.d (.int (min a b))) e ?_ q
  simp only [VR, V]
  split
  · exact ⟨u, by rw [Int.min_eq_right (by omega)]⟩
  · exact ⟨t, by rw [Int.min_eq_left (by omega)]⟩
theorem CB.max2 {n : Nat} (hA : Rm n A) {a b : Int} {Q : Res → Prop} (q : Q (.d (.int (max a b)))) : CB X A g env ρ σ (.builtin "max") [.d (.int a), .d (.int b)] Q := fun s vs S h => by
  obtain ⟨v, ws, rfl, h1, v2, ws2, rfl, h2, rfl⟩ := h
  simp only [AR, V] at h1 h2
  obtain ⟨t, rfl⟩ := h1; obtain ⟨u, rfl⟩ := h2
  refine max_two_ints hA.handled fun h' tk e => .mk (.d (.int (max a b))) e ?_ q
  simp only [VR, V]
  split
  · exact ⟨u, by rw [Int.max_eq_right (by omega)]⟩
  · exact ⟨t, by rw [Int.max_eq_left (by omega)]⟩
theorem CB.min3 {n : Nat} (hA : Rm n A) {a b c : Int} {Q : Res → Prop} (q : Q (.d (.int (min (min a b) c)))) : CB X A g env ρ σ (.builtin "min") [.d (.int a), .d (.int b), .d (.int c)] Q := fun s vs S h => by
  obtain ⟨v, ws, rfl, h1, v2, ws2, rfl, h2, v3, ws3, rfl, h3, rfl⟩ := h
  simp only [AR, V] at h1 h2 h3
  obtain ⟨t, rfl⟩ := h1; obtain ⟨u, rfl⟩ := h2; obtain ⟨x, rfl⟩ := h3
  refine min_three_ints hA.handled fun h' tk e => .mk (.d (.int (min (min a b) c))) e ?_ q
  simp only [VR, V]
  split <;> split
  · exact ⟨x, by congr 1; omega⟩
  · exact ⟨u, by congr 1; omega⟩
  · exact ⟨x, by congr 1; omega⟩
  · exact ⟨t, by congr 1; omega⟩
theorem CB.max3 {n : Nat} (hA : Rm n A) {a b c : Int} {Q : Res → Prop} (q : Q (.d (.int (max (max a b) c)))) : CB X A g env ρ σ (.builtin "max") [.d (.int a), .d (.int b), .d (.int c)] Q := fun s vs S h => by
  obtain ⟨v, ws, rfl, h1, v2, ws2, rfl, h2, v3, ws3, rfl, h3, rfl⟩ := h
  simp only [AR, V] at h1 h2 h3
  obtain ⟨t, rfl⟩ := h1; obtain ⟨u, rfl⟩ := h2; obtain ⟨x, rfl⟩ := h3
  refine max_three_ints hA.handled fun h' tk e => .mk (.d (.int (max (max a b) c))) e ?_ q
  simp only [VR, V]
  split <;> split
  · exact ⟨x, by congr 1; omega⟩
  · exact ⟨u, by congr 1; omega⟩
  · exact ⟨x, by congr 1; omega⟩
  · exact ⟨t, by congr 1; omega⟩
theorem CB.min4 {n : Nat} (hA : Rm n A) {a b c d : Int} {Q : Res → Prop} (q : Q (.d (.int (min (min (min a b) c) d)))) : CB X A g env ρ σ (.builtin "min") [.d (.int a), .d (.int b), .d (.int c), .d (.int d)] Q := fun s vs S h => by
  obtain ⟨v, ws, rfl, h1, v2, ws2, rfl, h2, v3, ws3, rfl, h3, v4, ws4, rfl, h4, rfl⟩ := h
  simp only [AR, V] at h1 h2 h3 h4
  obtain ⟨t, rfl⟩ := h1; obtain ⟨u, rfl⟩ := h2; obtain ⟨x, rfl⟩ := h3; obtain ⟨y, rfl⟩ := h4
  exact min_four hA.handled fun h' tk t' e => .mk (.d (.int _)) e ⟨t', rfl⟩ q
end
end Mine

namespace Mine
open PySem PySem.W PySem.Calls PyProof.Rows

def cut {α : Type} (xs : List α) (lo hi : Option Int) : List α :=
  match hi with
  | none => xs.drop (lo.getD 0).toNat
  | some y => (xs.drop (lo.getD 0).toNat).take (y.toNat - (lo.getD 0).toNat)
theorem cut_length {α : Type} (xs : List α) (lo hi : Option Int) : (cut xs lo hi).length ≤ xs.length := by
  unfold cut; split <;> simp <;> omega
theorem Vs.cut {h : Heap} {ds : List D} {vs : List Value} (e : Vs h ds vs) (lo hi : Option Int) : Vs h (cut ds lo hi) (cut vs lo hi) := by
  unfold Mine.cut; split
  · exact e.drop _
  · exact (e.drop _).take _
def NonNeg (o : Option Int) : Prop := ∀ i, o = some i → 0 ≤ i

theorem bounds_nat (lo hi : Option Int) (n : Nat) (h0 : NonNeg lo) (h1 : NonNeg hi) :
    sliceBounds lo hi none n = (((min (lo.getD 0).toNat n : Nat) : Int), ((min ((hi.getD n).toNat) n : Nat) : Int), 1) := by
  unfold sliceBounds
  simp only [Option.getD_none, show (1 : Int) > 0 by decide, if_true]
  congr 1
  · cases lo with
    | none => simp
    | some i => have := h0 i rfl; simp only [show ¬ i < 0 by omega, if_false, Option.getD_some]; omega
  · congr 1
    cases hi with
    | none => simp
    | some i => have := h1 i rfl; simp only [show ¬ i < 0 by omega, if_false, Option.getD_some]; omega
theorem adjust_nat (lo hi : Option Int) (n : Nat) (h0 : NonNeg lo) (h1 : NonNeg hi) :
    Builtin.Slice.sliceAdjust lo hi 1 n = (((min (lo.getD 0).toNat n : Nat) : Int), ((min ((hi.getD n).toNat) n : Nat) : Int)) := by
  unfold Builtin.Slice.sliceAdjust
  simp only [show ¬ (1 : Int) < 0 by decide, if_false]
  congr 1
  · cases lo with
    | none => simp
    | some i => have := h0 i rfl; simp only [show ¬ i < 0 by omega, if_false, Option.getD_some]; omega
  · cases hi with
    | none => simp
    | some i => have := h1 i rfl; simp only [show ¬ i < 0 by omega, if_false, Option.getD_some]; omega
theorem places_nat (a b : Nat) : Builtin.Slice.slicePlaces (a : Int) (b : Int) 1 = b - a := by
  unfold Builtin.Slice.slicePlaces
  simp only [show (1 : Int) > 0 by decide, if_true, Int.ediv_one]
  split <;> omega
theorem take_drop_min {α : Type} (l : List α) (a b : Nat) : (l.drop (min a l.length)).take (min b l.length - min a l.length) = (l.drop a).take (b - a) := by
  by_cases h : a ≤ l.length
  · rw [Nat.min_eq_left h]
    by_cases h2 : b ≤ l.length
    · rw [Nat.min_eq_left h2]
    · rw [Nat.min_eq_right (by omega), List.take_of_length_le (by simp), List.take_of_length_le (by simp; omega)]
  · have e : min a l.length = l.length := Nat.min_eq_right (by omega)
    rw [e, List.drop_of_length_le (Nat.le_refl _), List.drop_of_length_le (by omega)]; simp
theorem cut_eq {α : Type} (xs : List α) (lo hi : Option Int) : (xs.drop (min (lo.getD 0).toNat xs.length)).take (min ((hi.getD xs.length).toNat) xs.length - min (lo.getD 0).toNat xs.length) = cut xs lo hi := by
  rw [take_drop_min]
  unfold cut
  cases hi with
  | none => simp only [Option.getD_none]; rw [List.take_of_length_le (by simp)]
  | some y => rfl
theorem slicePick_cut (items : Array Value) (lo hi : Option Int) (h0 : NonNeg lo) (h1 : NonNeg hi) : (slicePick items lo hi none).toList = cut items.toList lo hi := by
  unfold slicePick
  rw [bounds_nat lo hi items.size h0 h1]
  simp only [sliceRange_one, pick_run]
  have := cut_eq items.toList lo hi
  rw [Array.length_toList] at this
  exact this

def evO (env : Env) (ρ : Rho) : Option Expr → Option (Option Int)
  | none => some none
  | some e => (evI env ρ e).map some

section
variable {X : Cx} {A : Around} {g : Heap} {env : Env} {ρ : Rho} {σ : Sig} {E : Value → Shared → Prop}

theorem part {x : Option Expr} {o : Option Int} {s : Shared} (h : evO env ρ x = some o) (S : SX X g env ρ σ s.heap) {P : Value → Shared → Prop}
    (k : ∀ v h' tk, SX X g env ρ σ h' → Ext s.heap h' → IsPart v o → P v { s with heap := h', toks := tk }) : wpAny (model X.prog X.w) A (evalPart x env) P E s := by
  cases x with
  | none => cases h; exact wpAny_evalPart_none (k .none s.heap s.toks S (.refl _) .none)
  | some e =>
    simp only [evO, Option.map_eq_some_iff] at h
    obtain ⟨i, hi, rfl⟩ := h
    have H : Ev X A g env ρ σ e (fun r => r = .d (.int i)) := Ev.int hi rfl
    refine wpAny_evalPart_some (use (H s S) S fun v r h1 tk1 S1 x1 y1 e1 => ?_)
    subst e1
    simp only [VR, V] at y1
    obtain ⟨t, rfl⟩ := y1
    exact k _ h1 tk1 S1 x1 (.int i t)

theorem Ev.sliceL {value : Expr} {lower upper : Option Expr} {p pos : Pos} {lo hi : Option Int} {Q : Res → Prop} (hlo : evO env ρ lower = some lo) (hhi : evO env ρ upper = some hi) (h0 : NonNeg lo) (h1 : NonNeg hi)
    (H : Ev X A g env ρ σ value (fun r => ∃ xs, r = .lst xs ∧ xs.length < 2 ^ 20 ∧ Q (.new (cut xs lo hi))))
    (ht : ∀ o r, letTemporaryGo value o r = pure () := by intro _ _; rfl) : Ev X A g env ρ σ (.Subscript value (.Slice lower upper none p) pos) Q := fun s S => by
  refine wpAny_Subscript_list_slice (use (H s S) S fun v r h1' tk1 S1 x1 y1 ⟨xs, e, hl, q⟩ => part hlo S1 fun vl h2 tk2 S2 x2 pl => part hhi S2 fun vu h3 tk3 S3 x3 pu => ?_) ht
  subst e
  obtain ⟨a, rfl, items, hi2, hv⟩ := y1
  have hli : LI h3 a xs := LI.ext ⟨items, hi2, hv⟩ (x2.trans x3)
  obtain ⟨items, hi2, hv⟩ := hli
  have hz : items.size = xs.length := by rw [hv.length]; simp
  refine ⟨a, items, lo, hi, rfl, hi2, by have : sizeLine = 2 ^ 24 := rfl; omega, pl, pu, ?_⟩
  have x13 := x1.trans (x2.trans x3)
  have xx : Ext h3 ((h3.push { cls := .type "slice", data := .fields #[vl, vu, .none] }).push { cls := .type "list", data := .seq (slicePick items lo hi none) }) := (Ext.push _ _).trans (Ext.push _ _)
  refine .mk (.new (cut xs lo hi)) (x13.trans xx) ⟨_, rfl, x13.none (Heap.get?_none_of_le (Nat.le_succ _)), slicePick items lo hi none, ⟨0, ?_⟩, ?_⟩ q
  · have := Heap.get?_push_size (h3.push { cls := .type "slice", data := .fields #[vl, vu, .none] }) (o := { cls := .type "list", data := .seq (slicePick items lo hi none) }) rfl
    rw [Heap.size_push] at this
    exact this
  · rw [slicePick_cut _ _ _ h0 h1]
    exact (hv.cut lo hi).mono xx.tg

theorem getItem_tuple_slice {t sl : Addr} {items : Array Value} {vl vu : Value} {lo hi : Option Int} {s : Shared} {Q : Value → Shared → Prop} (ht : IsTup s.heap t items) (hs : s.heap.IsSliceOf sl vl vu .none) (pl : IsPart vl lo) (pu : IsPart vu hi)
    (h0 : NonNeg lo) (h1 : NonNeg hi) (hsz : items.size ≤ sizeLine)
    (hw : cut items.toList lo hi = items.toList → Q (.ref t) s)
    (h : Q (.ref s.heap.objs.size) { s with heap := s.heap.push { cls := .type "tuple", data := .seq (cut items.toList lo hi).toArray } }) : wpAny (model X.prog X.w) A (getItem (.ref t) (.ref sl)) Q E s := by
  obtain ⟨os, hos, hcs, hds⟩ := id hs
  have hTs : s.TypeIs (.ref sl) "slice" := ⟨os, hos, hcs⟩
  let a := min (lo.getD 0).toNat items.size
  let b := min ((hi.getD items.size).toNat) items.size
  have hcut : cut items.toList lo hi = (items.toList.drop a).take (b - a) := by
    have := cut_eq items.toList lo hi
    rw [Array.length_toList] at this
    exact this.symm
  unfold getItem
  try with_reducible refine wpAny_holding ?_
  refine wpAny_bind (wpAny_sequenceKey ht.typeIs (by decide) ?_)
  refine wpAny_bind (wpAny_callSpecial?_slot (name := Str.ofString "__getitem__") ht.typeIs slot_tuple_getitem
    (wpAny_call_entry slot_tuple_getitem ht.typeIs entry_tuple_getitem ?_ (args_tuple_getitem _ _)))
  show wpAny _ _ (Builtin.Tuple.tupleItemsOf (.ref t) >>= _) _ _ s
  refine wpAny_bind (tupleItemsOf_ ht ?_)
  refine wpAny_bind (wpAny_typeOf hTs ?_)
  rw [if_pos (by decide)]
  have happ : ∀ {P : Int × Int × Nat → Shared → Prop} {E' : Value → Shared → Prop}, P ((a : Int), 1, b - a) s → wpAny (model X.prog X.w) A.in1 (Builtin.Slice.sliceApplied (.ref sl) (pure (items.size : Int))) P E' s := by
    intro P E' hP
    unfold Builtin.Slice.sliceApplied Builtin.Slice.sliceFields
    refine wpAny_bind (wpAny_bind (wpAny_field hos hds (x := vl) rfl (wpAny_bind (wpAny_field hos hds (x := vu) rfl (wpAny_bind (wpAny_field hos hds (x := .none) rfl (wpAny_pure ?_)))))))
    refine wpAny_bind (slicePart_none ?_)
    show wpAny _ _ (if ((1 : Int) == 0) = true then _ else _) _ _ s
    rw [if_neg (by decide)]
    have k1 : ∀ {v : Value} {o : Option Int} {P : Option Int → Shared → Prop}, IsPart v o → P o s → wpAny (model X.prog X.w) A.in1 (Builtin.Slice.slicePartIndex v) P E' s := by
      intro v o P hp hP
      cases hp with
      | none => exact slicePart_none hP
      | int i t => exact slicePart_int hP
    refine wpAny_bind (k1 pl (wpAny_bind (k1 pu (wpAny_bind (wpAny_pure ?_)))))
    show wpAny _ _ (match Builtin.Slice.sliceAdjust lo hi 1 (items.size : Int) with | (x, y) => pure (x, (1 : Int), Builtin.Slice.slicePlaces x y 1)) _ _ s
    rw [adjust_nat lo hi items.size h0 h1]
    show wpAny _ _ (pure ((a : Int), (1 : Int), Builtin.Slice.slicePlaces (a : Int) (b : Int) 1)) _ _ s
    rw [places_nat]
    exact wpAny_pure hP
  refine wpAny_bind (happ ?_)
  have hpick : ((List.range (b - a)).filterMap fun (k : Nat) => items[((a : Int) + (k : Int) * 1).toNat]?).toArray = (cut items.toList lo hi).toArray := by
    have e : (fun (k : Nat) => items[((a : Int) + (k : Int) * 1).toNat]?) = fun k => items[a + k]? := by
      funext k
      have : ((a : Int) + (k : Int) * 1).toNat = a + k := by omega
      rw [this]
    rw [e, hcut, ← pick_run, List.filterMap_map]
    rfl
  have hz : sizeOk (.seq (cut items.toList lo hi).toArray) := by
    show (cut items.toList lo hi).toArray.size ≤ sizeLine
    rw [List.size_toArray]
    have := cut_length items.toList lo hi
    rw [Array.length_toList] at this
    exact Nat.le_trans this hsz
  show wpAny _ _ (if ((a : Int) == 0 && (1 : Int) == 1 && (b - a) == items.size) = true then _ else _) _ _ s
  by_cases hwh : ((a : Int) == 0 && (1 : Int) == 1 && (b - a) == items.size) = true
  · rw [if_pos hwh]
    simp only [Bool.and_eq_true, beq_iff_eq] at hwh
    obtain ⟨⟨ha, _⟩, hb⟩ := hwh
    have ha' : a = 0 := by omega
    have hid : cut items.toList lo hi = items.toList := by
      rw [hcut, hb, ha', List.drop_zero, List.take_of_length_le (by simp)]
    unfold Builtin.Tuple.tupleIsExact
    refine wpAny_bind (wpAny_bind (wpAny_typeOf ht.typeIs (wpAny_pure ?_)))
    show wpAny _ _ (if ((Value.type "tuple" == Value.type "tuple") = true) then _ else _) _ _ s
    rw [if_pos (by decide)]
    first
      | exact wpAny_bind (wpAny_rule (wpAny_pure ⟨_, rfl, wpAny_pure (hw hid)⟩))
      | exact wpAny_bind (wpAny_rule (wpAny_bind (wpAny_pure (wpAny_pure ⟨_, rfl, wpAny_pure (hw hid)⟩))))
  · rw [if_neg hwh, hpick]
    first
      | exact wpAny_bind (m := Builtin.Tuple.tupleExact _) (wpAny_newObj_type (wpAny_pure ⟨_, rfl, wpAny_pure h⟩) hz)
      | exact wpAny_bind (m := Builtin.Tuple.tupleExact _) (wpAny_newObj_type (wpAny_bind (wpAny_pure (wpAny_pure ⟨_, rfl, wpAny_pure h⟩))) hz)
      | exact wpAny_bind (wpAny_bind (m := Builtin.Tuple.tupleExact _) (wpAny_newObj_type (wpAny_pure (wpAny_pure ⟨_, rfl, wpAny_pure h⟩)) hz))
      | exact wpAny_bind (wpAny_bind (m := Builtin.Tuple.tupleExact _) (wpAny_newObj_type (wpAny_pure ⟨_, rfl, wpAny_pure h⟩) hz))

theorem Ev.sliceT {value : Expr} {lower upper : Option Expr} {p pos : Pos} {lo hi : Option Int} {Q : Res → Prop} (hlo : evO env ρ lower = some lo) (hhi : evO env ρ upper = some hi) (h0 : NonNeg lo) (h1 : NonNeg hi)
    (H : Ev X A g env ρ σ value (fun r => ∃ xs, r = .d (.tup xs) ∧ xs.length < 2 ^ 20 ∧ Q (.d (.tup (cut xs lo hi)))))
    (ht : ∀ o r, letTemporaryGo value o r = pure () := by intro _ _; rfl) : Ev X A g env ρ σ (.Subscript value (.Slice lower upper none p) pos) Q := fun s S => by
  refine wpAny_Subscript_Slice (T := "tuple") slot_tuple_getitem.lookup (use (H s S) S fun v r h1' tk1 S1 x1 y1 ⟨xs, e, hl, q⟩ => wpAny_Slice (part hlo S1 fun vl h2 tk2 S2 x2 pl => part hhi S2 fun vu h3 tk3 S3 x3 pu => ?_)) ht
  subst e
  rw [evalPart_none]
  have y2 := V.mono (x2.trans x3).tg y1
  simp only [V] at y2
  obtain ⟨a, items, rfl, hi2, hv⟩ := y2
  have hz : items.size = xs.length := by rw [hv.length]; simp
  have x13 := x1.trans (x2.trans x3)
  have xx := Ext.push h3 { cls := .type "slice", data := .fields #[vl, vu, .none] }
  have hi3 := hi2.push { cls := .type "slice", data := .fields #[vl, vu, .none] }
  refine wpAny_pure ⟨hi3.typeIs (s := { s with heap := h3.push { cls := .type "slice", data := .fields #[vl, vu, .none] } }), getItem_tuple_slice (s := { s with heap := h3.push { cls := .type "slice", data := .fields #[vl, vu, .none] }, toks := tk3 }) hi3 (Heap.IsSliceOf.new ..) pl pu h0 h1 (by have : sizeLine = 2 ^ 24 := rfl; omega) (fun hid => ?_) ?_⟩
  · refine .mk (.d (.tup _)) (x13.trans xx) ?_ q
    simp only [VR, V]
    refine ⟨a, items, rfl, hi3, ?_⟩
    have := hv.cut lo hi
    rw [hid] at this
    exact this.mono xx.tg
  · refine .mk (.d (.tup _)) (x13.trans (xx.trans (Ext.push _ _))) ?_ q
    simp only [VR, V]
    exact ⟨_, _, rfl, IsTup.new _ _, by simpa using (hv.cut lo hi).mono (xx.trans (Ext.push _ _)).tg⟩
end
end Mine

namespace Mine
open PySem PySem.W PySem.Calls PyProof.Rows

theorem Stp.tg {X : Cx} {g : Heap} {env : Env} {ρ : Rho} {σ σ' : Sig} {h h' : Heap} (S : SX X g env ρ σ h) (P : Stp env σ σ' h h') : TG h h' := by
  intro a items t
  obtain ⟨o, ho, r⟩ := id t
  refine ⟨o, P.keep a o ho ?_ ?_ ?_, r⟩
  · rintro rfl
    obtain ⟨m, hn, _⟩ := S.ns
    exact Ns_noTup hn _ t
  · cases e : σ a with
    | none => rfl
    | some c => exact absurd t ((S.own a c e).1.noTup _)
  · intro x hx
    obtain ⟨_, v, hc⟩ := S.cok x a hx
    exact IsCell.noTup hc _ t

def PX (X : Cx) (g : Heap) (env : Env) (σ : Sig) (s : Shared) (Q : AF → Rho → Sig → Prop) : Flow → Shared → Prop := fun f s' =>
  ∃ af ρ' σ' h' tk, s' = { s with heap := h', toks := tk } ∧ SX X g env ρ' σ' h' ∧ Stp env σ σ' s.heap h' ∧ FR g h' af f ∧ Q af ρ' σ'

section
variable (X : Cx) (A : Around) (g : Heap) (env : Env) (ρ : Rho) (σ : Sig)
def X1 (st : Stmt) (Q : AF → Rho → Sig → Prop) : Prop := ∀ s, SX X g env ρ σ s.heap → wpAny (model X.prog X.w) A (exec st env) (PX X g env σ s Q) NoE s
def Xs (sts : List Stmt) (Q : AF → Rho → Sig → Prop) : Prop := ∀ s, SX X g env ρ σ s.heap → wpAny (model X.prog X.w) A (execs sts env) (PX X g env σ s Q) NoE s
end

section
variable {X : Cx} {A : Around} {g : Heap} {env : Env} {ρ : Rho} {σ : Sig} {E : Value → Shared → Prop}

theorem useX {t : Sem Flow} {Q : AF → Rho → Sig → Prop} {s : Shared} (H : wpAny (model X.prog X.w) A t (PX X g env σ s Q) NoE s) {P : Flow → Shared → Prop}
    (k : ∀ f af ρ' σ' h' tk, SX X g env ρ' σ' h' → Stp env σ σ' s.heap h' → FR g h' af f → Q af ρ' σ' → P f { s with heap := h', toks := tk }) : wpAny (model X.prog X.w) A t P E s :=
  wpAny_mono H (fun f s' ⟨af, ρ', σ', h', tk, e, x, y, z, q⟩ => by subst e; exact k f af ρ' σ' h' tk x y z q) fun _ _ f => f.elim
theorem PX.mk {s : Shared} {Q : AF → Rho → Sig → Prop} {f : Flow} {h' : Heap} {tk : Nat} (af : AF) (ρ' : Rho) (σ' : Sig) (x : SX X g env ρ' σ' h') (y : Stp env σ σ' s.heap h') (z : FR g h' af f) (q : Q af ρ' σ') :
    PX X g env σ s Q f { s with heap := h', toks := tk } := ⟨af, ρ', σ', h', tk, rfl, x, y, z, q⟩
theorem PX.lift {s : Shared} {Q : AF → Rho → Sig → Prop} {f : Flow} {h₁ : Heap} {tk : Nat} {s' : Shared} {σ₁ : Sig} (x : Stp env σ σ₁ s.heap h₁) (p : PX X g env σ₁ { s with heap := h₁, toks := tk } Q f s') : PX X g env σ s Q f s' := by
  obtain ⟨af, ρ', σ', h', tk', e, x', y, z, q⟩ := p
  exact ⟨af, ρ', σ', h', tk', e, x', x.trans y, z, q⟩

theorem X1.mono {st : Stmt} {Q Q' : AF → Rho → Sig → Prop} (H : X1 X A g env ρ σ st Q) (k : ∀ f ρ' σ', Q f ρ' σ' → Q' f ρ' σ') : X1 X A g env ρ σ st Q' := fun s S =>
  useX (H s S) fun f af ρ' σ' h' tk x y z q => .mk af ρ' σ' x y z (k _ _ _ q)
theorem Xs.mono {st : List Stmt} {Q Q' : AF → Rho → Sig → Prop} (H : Xs X A g env ρ σ st Q) (k : ∀ f ρ' σ', Q f ρ' σ' → Q' f ρ' σ') : Xs X A g env ρ σ st Q' := fun s S =>
  useX (H s S) fun f af ρ' σ' h' tk x y z q => .mk af ρ' σ' x y z (k _ _ _ q)
theorem Xs.weaken {st : List Stmt} {Q : AF → Rho → Sig → Prop} (ρ' : Rho) (hw : ∀ p ∈ ρ', ρ.lookup p.1 = some p.2) (H : Xs X A g env ρ' σ st Q) : Xs X A g env ρ σ st Q := fun s S =>
  H s (S.weaken fun x d e => hw (x, d) (mem_of_lookup e))
theorem X1.weaken {st : Stmt} {Q : AF → Rho → Sig → Prop} (ρ' : Rho) (hw : ∀ p ∈ ρ', ρ.lookup p.1 = some p.2) (H : X1 X A g env ρ' σ st Q) : X1 X A g env ρ σ st Q := fun s S =>
  H s (S.weaken fun x d e => hw (x, d) (mem_of_lookup e))

theorem Xs.nil {Q : AF → Rho → Sig → Prop} (q : Q .nxt ρ σ) : Xs X A g env ρ σ [] Q := fun s S =>
  wpAny_execs_nil (.mk (h' := s.heap) (tk := s.toks) .nxt ρ σ S .refl rfl q)
theorem Xs.cons {st : Stmt} {rest : List Stmt} {Q : AF → Rho → Sig → Prop} (H : X1 X A g env ρ σ st (fun f ρ' σ' => match f with | .nxt => Xs X A g env ρ' σ' rest Q | f => Q f ρ' σ')) : Xs X A g env ρ σ (st :: rest) Q := fun s S => by
  refine wpAny_execs_cons (useX (H s S) fun f af ρ' σ' h' tk x y z q => ?_)
  cases af with
  | nxt => simp only [FR] at z; subst z; exact wpAny_mono (q _ x) (fun f s' p => PX.lift y p) fun _ _ f => f
  | brk => simp only [FR] at z; subst z; exact .mk .brk ρ' σ' x y rfl q
  | cont => simp only [FR] at z; subst z; exact .mk .cont ρ' σ' x y rfl q
  | ret r => obtain ⟨v, rfl, hv⟩ := z; exact .mk (.ret r) ρ' σ' x y ⟨v, rfl, hv⟩ q

/-! stores -/
def stOk (env : Env) (x : Str) : Bool := env.kindOf x == some .local || (env.kindOf x == some .cell && (env.cells.lookup x).isSome)
theorem St.kindF {s : Shared} (S : SX X g env ρ σ s.heap) : (env.scope.kind == .class || (env.scope.kind == .module && env.locals != env.globals)) = false := by rw [S.kind]; rfl
theorem storeVar {s : Shared} {x : Str} {d : D} {v : Value} {P : Unit → Shared → Prop} (S : SX X g env ρ σ s.heap) (hv : V s.heap d v) (ho : stOk env x = true)
    (k : ∀ h' tk, SX X g env ((x, d) :: ρ) σ h' → Stp env σ σ s.heap h' → P () { s with heap := h', toks := tk }) : wpAny (model X.prog X.w) A (storeName env x v) P E s := by
  simp only [stOk, Bool.or_eq_true, Bool.and_eq_true, beq_iff_eq] at ho
  rcases ho with hl | ⟨hc, hi⟩
  · obtain ⟨m, hn, _⟩ := S.ns
    refine wpAny_storeName_local hl hn (fun h' hn' hs => k h' _ (S.store hn hl hv hn' hs) (.same hs (.inl rfl) ?_ fun b c e => ⟨c, e⟩)) (St.kindF S)
    obtain ⟨o, _, _, ho, _⟩ := hn'; exact ⟨o, ho⟩
  · obtain ⟨c, hc'⟩ := Option.isSome_iff_exists.mp hi
    obtain ⟨_, v₀, hc₀⟩ := S.cok x c hc'
    refine wpAny_storeName_cell S.kind hc hc' hc₀ fun h' hn' hs => k h' _ (S.storeC hc hv hc' hn' hs) (.same hs (.inr (.inr ⟨x, hc'⟩)) ?_ fun b c e => ⟨c, e⟩)
    obtain ⟨o, ho, _⟩ := hn'; exact ⟨o, ho⟩

theorem X1.assign {x : Str} {px pos : Pos} {value : Expr} {Q : AF → Rho → Sig → Prop} (H : Ev X A g env ρ σ value (fun r => ∃ d, r = .d d ∧ Q .nxt ((x, d) :: ρ) σ)) (ho : stOk env x = true := by rfl)
    (hs : swapsWith value (some (.Name x px)) pos.line env = pure false := by rfl) : X1 X A g env ρ σ (.Assign [.Name x px] value pos) Q := fun s S => by
  refine wpAny_Assign_Name (use (H s S) S fun v r h1 tk1 S1 x1 y1 ⟨d, e, q⟩ => ?_) hs
  subst e
  exact storeVar (s := { s with heap := h1, toks := tk1 }) S1 y1 ho fun h2 tk2 S2 p2 => .mk (h' := h2) (tk := tk2) .nxt _ σ S2 ((Stp.of_ext x1).trans p2) rfl q
/-- a fresh list under a name -/
theorem X1.assignN {x : Str} {px pos : Pos} {value : Expr} {Q : AF → Rho → Sig → Prop} (H : Ev X A g env ρ σ value (fun r => ∃ xs, r = .new xs ∧ ∀ a, σ a = none → a ≠ env.locals → Q .nxt ((x, .val (.ref a)) :: ρ) (σ.put a (.list xs)))) (ho : stOk env x = true := by rfl)
    (hs : swapsWith value (some (.Name x px)) pos.line env = pure false := by rfl) : X1 X A g env ρ σ (.Assign [.Name x px] value pos) Q := fun s S => by
  refine wpAny_Assign_Name (use (H s S) S fun v r h1 tk1 S1 x1 y1 ⟨xs, e, q⟩ => ?_) hs
  subst e
  obtain ⟨a, rfl, hn, hp⟩ := y1
  obtain ⟨hσ, hL, _⟩ := S.fresh hn
  have S1' : SX X g env ρ (σ.put a (.list xs)) h1 := S.own_new x1 hn hp
  have P1 : Stp env σ (σ.put a (.list xs)) s.heap h1 := ⟨fun b o e _ _ _ => x1 b o e, fun b o e => ⟨o, x1 b o e⟩, fun b c e => by
    by_cases hb : b = a
    · subst hb; exact .inr hn
    · rw [Sig.put_ne _ _ hb] at e; exact .inl ⟨c, e⟩⟩
  exact storeVar (s := { s with heap := h1, toks := tk1 }) S1' (d := .val (.ref a)) (by simp [V]) ho fun h2 tk2 S2 p2 => .mk (h' := h2) (tk := tk2) .nxt _ _ S2 (P1.trans p2) rfl (q a hσ hL)

theorem X1.ret {e : Expr} {pos : Pos} {Q : AF → Rho → Sig → Prop} (H : Ev X A g env ρ σ e (fun r => Q (.ret r) ρ σ)) : X1 X A g env ρ σ (.Return (some e) pos) Q := fun s S => by
  refine wpAny_Return_some (use (H s S) S fun v r h1 tk1 S1 x1 y1 q => ?_)
  exact .mk (h' := h1) (tk := tk1) (.ret r) ρ σ S1 (.of_ext x1) ⟨v, rfl, y1.base S.keep⟩ q
theorem X1.cont {pos : Pos} {Q : AF → Rho → Sig → Prop} (q : Q .cont ρ σ) : X1 X A g env ρ σ (.Continue pos) Q := fun s S => wpAny_Continue (.mk (h' := s.heap) (tk := s.toks) .cont ρ σ S .refl rfl q)
theorem X1.ite {test : Expr} {body orelse : List Stmt} {pos : Pos} {Q : AF → Rho → Sig → Prop} (H : Tr X A g env ρ σ test (fun b => if b then Xs X A g env ρ σ body Q else Xs X A g env ρ σ orelse Q)) : X1 X A g env ρ σ (.If test body orelse pos) Q := fun s S => by
  refine wpAny_If (useT (H s S) S fun b h1 tk1 S1 x1 q => ?_)
  cases b with
  | true => exact wpAny_mono (q _ S1) (fun f s' p => PX.lift (.of_ext x1) p) fun _ _ f => f
  | false => exact wpAny_mono (q _ S1) (fun f s' p => PX.lift (.of_ext x1) p) fun _ _ f => f

/-! loops -/
/-- what a loop's own objects may turn -/
structure StW (wr : List Addr) (env : Env) (σ σ' : Sig) (h h' : Heap) : Prop where
  keep : ∀ b o, b ∉ wr → h.get? b = some o → b ≠ env.locals → σ b = none → (∀ x, env.cells.lookup x ≠ some b) → h'.get? b = some o
  dom : ∀ b o, h.get? b = some o → ∃ o', h'.get? b = some o'
  sig : ∀ b c, σ' b = some c → (∃ c, σ b = some c) ∨ h.get? b = none
theorem StW.stp {wr : List Addr} {env : Env} {σ σ' σ'' : Sig} {h h' h'' : Heap} (x : StW wr env σ σ' h h') (y : Stp env σ' σ'' h' h'') : StW wr env σ σ'' h h'' where
  keep := fun b o hw e h1 h2 h3 => by
    refine y.keep b o (x.keep b o hw e h1 h2 h3) h1 ?_ h3
    cases e' : σ' b with
    | none => rfl
    | some c =>
      rcases x.sig b c e' with ⟨c', hc⟩ | hc
      · rw [h2] at hc; cases hc
      · rw [hc] at e; cases e
  dom := fun b o e => let ⟨o', e'⟩ := x.dom b o e; y.dom b o' e'
  sig := fun b c e => by
    rcases y.sig b c e with ⟨c', hc⟩ | hc
    · exact x.sig b c' hc
    · refine .inr ?_
      cases e' : h.get? b with
      | none => rfl
      | some o => obtain ⟨o', e''⟩ := x.dom b o e'; rw [hc] at e''; cases e''

structure ItOK (X : Cx) (A : Around) (env : Env) (σ : Sig) (h₀ h : Heap) (it : Value) (ds : List D) : Prop where
  ok : ∃ I fp wr P St, it = .ref I ∧ Walks X.prog X.w A I fp wr ds.length P St ∧ St 0 h ∧
    (∀ b ∈ wr, h₀.get? b = none) ∧
    (∀ b ∈ fp, b ≠ env.locals ∧ σ b = none ∧ ∀ x, env.cells.lookup x ≠ some b) ∧
    (∀ i h', St i h' → ∀ b ∈ fp, ∃ o, h'.get? b = some o ∧ (b ∈ wr → ∀ items, ¬ IsTup h' b items)) ∧
    (∀ (i : Nat) v d, ds[i]? = some d → P i v → V h d v)

/-- an iterable and its items -/
def Itr (X : Cx) (A : Around) (g : Heap) (env : Env) (ρ : Rho) (σ : Sig) (iter : Expr) (Q : List D → Prop) : Prop := ∀ s, SX X g env ρ σ s.heap →
  wpAny (model X.prog X.w) A (eval iter env) (fun xv s₁ => wpAny (model X.prog X.w) A (pyIter xv) (fun it s₂ => ∃ ds h₂ tk, s₂ = { s with heap := h₂, toks := tk } ∧ Ext s.heap h₂ ∧ ItOK X A env σ s.heap h₂ it ds ∧ Q ds) NoE s₁) NoE s

theorem St.iter {h h' : Heap} (S : SX X g env ρ σ h) {wr : List Addr} (hw : ∀ b ∈ wr, g.get? b = none ∧ b ≠ env.locals ∧ σ b = none ∧ (∀ x, env.cells.lookup x ≠ some b) ∧ ∀ items, ¬ IsTup h b items)
    (hk : ∀ b o, b ∉ wr → h.get? b = some o → h'.get? b = some o) : SX X g env ρ σ h' := by
  have tg : TG h h' := by
    intro a items t
    obtain ⟨o, ho, r⟩ := id t
    exact ⟨o, hk a o (fun hm => (hw a hm).2.2.2.2 _ t) ho, r⟩
  exact {
    glob := S.glob
    keep := fun b o e => hk b o (fun hm => by rw [(hw b hm).1] at e; cases e) (S.keep b o e)
    kind := S.kind
    globals := S.globals
    builtins := S.builtins
    out := S.out
    ns := let ⟨m, hn, r⟩ := S.ns; ⟨m, hn.at' fun o e => hk _ o (fun hm => (hw _ hm).2.1 rfl) e, fun x d h1 h2 => let ⟨v, p, q⟩ := r x d h1 h2; ⟨v, p, q.mono tg⟩⟩
    cel := fun x d h1 h2 => let ⟨c, v, p, ⟨o, ho, q⟩, r⟩ := S.cel x d h1 h2; ⟨c, v, p, ⟨o, hk c o (fun hm => (hw c hm).2.2.2.1 x p) ho, q⟩, r.mono tg⟩
    cok := fun x c h1 => let ⟨p, v, o, ho, q⟩ := S.cok x c h1; ⟨p, v, o, hk c o (fun hm => (hw c hm).2.2.2.1 x h1) ho, q⟩
    apart := S.apart
    own := fun a c h1 => let ⟨p, q, r⟩ := S.own a c h1; ⟨p.ofGet tg fun o e => hk a o (fun hm => by rw [(hw a hm).2.2.1] at h1; cases h1) e, q, r⟩ }

/-- the body of Itr, at a state -/
def ItAt (X : Cx) (A : Around) (env : Env) (σ : Sig) (iter : Expr) (s : Shared) (Q : List D → Prop) : Prop :=
  wpAny (model X.prog X.w) A (eval iter env) (fun xv s₁ => wpAny (model X.prog X.w) A (pyIter xv) (fun it s₂ => ∃ ds h₂ tk, s₂ = { s with heap := h₂, toks := tk } ∧ Ext s.heap h₂ ∧ ItOK X A env σ s.heap h₂ it ds ∧ Q ds) NoE s₁) NoE s
def ForQ (X : Cx) (A : Around) (g : Heap) (env : Env) (ρ : Rho) (σ : Sig) (x : Str) (body : List Stmt) (Q : AF → Rho → Sig → Prop) (ds : List D) : Prop :=
  ∃ I : Nat → Rho → Sig → Prop, I 0 ρ σ ∧
      (∀ i d ρ' σ', ds[i]? = some d → I i ρ' σ' → Xs X A g env ((x, d) :: ρ') σ' body (fun f ρ'' σ'' => match f with
        | .nxt => I (i + 1) ρ'' σ'' | .cont => I (i + 1) ρ'' σ'' | .brk => Q .nxt ρ'' σ'' | .ret r => Q (.ret r) ρ'' σ'')) ∧
      (∀ ρ' σ', I ds.length ρ' σ' → Q .nxt ρ' σ')
theorem for_at {x : Str} {px pos : Pos} {iter : Expr} {body : List Stmt} {Q : AF → Rho → Sig → Prop} {s : Shared} (S : SX X g env ρ σ s.heap)
    (H : ItAt X A env σ iter s (ForQ X A g env ρ σ x body Q))
    (ho : stOk env x = true) (hs : ∀ x, foldedSetIterable iter env x = pure x) : wpAny (model X.prog X.w) A (exec (.For (.Name x px) iter body [] pos) env) (PX X g env σ s Q) NoE s := by
  refine wpAny_For ?_ hs
  refine wpAny_mono H (fun xv s₁ h₁ => wpAny_mono h₁ (fun it s₂ h₂ => ?_) fun _ _ f => f.elim) fun _ _ f => f.elim
  obtain ⟨ds, h₂, tk₂, rfl, x2, ⟨I, fp, wr, P, Sq, rfl, W, hst, hnew, hfp, hex, hv⟩, J, hJ0, turn, done⟩ := h₂
  have hwr : ∀ b ∈ wr, g.get? b = none ∧ b ≠ env.locals ∧ σ b = none ∧ ∀ x, env.cells.lookup x ≠ some b := fun b hb =>
    ⟨S.keep.none (hnew b hb), (hfp b (W.sub b hb)).1, (hfp b (W.sub b hb)).2.1, (hfp b (W.sub b hb)).2.2⟩
  have hbase : ∀ b ∈ fp, ∃ o, h₂.get? b = some o := fun b hb => let ⟨o, e, _⟩ := hex 0 h₂ hst b hb; ⟨o, e⟩
  refine codeAny_forLoop (R := fun r s' => match r with | .ok f => PX X g env σ s Q f s' | .error e => cameBackBy (model X.prog X.w) A env NoE e s')
    (fun n s' => ∃ i ρ' σ' h' tk, n = ds.length + 1 - i ∧ i ≤ ds.length ∧ s' = { s with heap := h', toks := tk } ∧ SX X g env ρ' σ' h' ∧ StW wr env σ σ' h₂ h' ∧ Sq i h' ∧ TG h₂ h' ∧ J i ρ' σ') ?_ (ds.length + 1)
    ⟨0, ρ, σ, h₂, tk₂, rfl, Nat.zero_le _, rfl, S.ext x2, ⟨fun b o _ e _ _ _ => e, fun b o e => ⟨o, e⟩, fun b c e => .inl ⟨c, e⟩⟩, hst, .refl _, hJ0⟩
  rintro n s' ⟨i, ρ', σ', h', tk, rfl, hi, rfl, S', P', hst', tg', hJ⟩
  have hσfp : ∀ b ∈ fp, σ' b = none := fun b hb => by
    cases e : σ' b with
    | none => rfl
    | some c =>
      rcases P'.sig b c e with ⟨c', hc⟩ | hc
      · rw [(hfp b hb).2.1] at hc; cases hc
      · obtain ⟨o, e'⟩ := hbase b hb; rw [hc] at e'; cases e'
  have hnext : ∀ h'' : Heap, (∀ b o, b ∉ wr → h'.get? b = some o → h''.get? b = some o) → (∀ b ∈ wr, ∃ o, h''.get? b = some o) → SX X g env ρ' σ' h'' ∧ StW wr env σ σ' h₂ h'' ∧ TG h₂ h'' := fun h'' hk hw => by
    have S'' : SX X g env ρ' σ' h'' := St.iter S' (wr := wr) (fun b hb => ⟨(hwr b hb).1, (hwr b hb).2.1, hσfp b (W.sub b hb), (hwr b hb).2.2.2, let ⟨o, _, q⟩ := hex i h' hst' b (W.sub b hb); q hb⟩) hk
    refine ⟨S'', ⟨fun b o hb e h1 h2 h3 => hk b o hb (P'.keep b o hb e h1 h2 h3), fun b o e => ?_, P'.sig⟩, fun a items t => ?_⟩
    · obtain ⟨o', e'⟩ := P'.dom b o e
      by_cases hb : b ∈ wr
      · exact hw b hb
      · exact ⟨o', hk b o' hb e'⟩
    · have t' := tg' a items t
      obtain ⟨o, ho, r⟩ := id t'
      refine ⟨o, hk a o (fun hb => ?_) ho, r⟩
      obtain ⟨_, _, q⟩ := hex i h' hst' a (W.sub a hb)
      exact q hb _ t'
  have fin : ∀ (af : AF) ρ'' σ'' h'' tk'' f, SX X g env ρ'' σ'' h'' → StW wr env σ σ'' h₂ h'' → FR g h'' af f → Q af ρ'' σ'' → PX X g env σ s Q f { s with heap := h'', toks := tk'' } := fun af ρ'' σ'' h'' tk'' f S'' P'' hf q =>
    .mk (h' := h'') (tk := tk'') af ρ'' σ'' S'' ⟨fun b o e h1 h2 h3 => P''.keep b o (fun hb => by rw [hnew b hb] at e; cases e) (x2 b o e) h1 h2 h3, fun b o e => P''.dom b o (x2 b o e), fun b c e => (P''.sig b c e).imp id x2.none⟩ hf q
  by_cases hlt : i < ds.length
  · refine wpAny_mono (Q := fun r s₁ => ∃ v h₁ tk₁, r = some v ∧ s₁ = { s with heap := h₁, toks := tk₁ } ∧ P i v ∧ Sq (i + 1) h₁ ∧ SX X g env ρ' σ' h₁ ∧ StW wr env σ σ' h₂ h₁ ∧ TG h₂ h₁) (E := NoE)
      (W.item i { s with heap := h', toks := tk } _ _ hlt hst' fun v h₁ tk₁ hP hst₁ hk₁ => ⟨v, h₁, tk₁, rfl, rfl, hP, hst₁, hnext h₁ hk₁ fun b hb => let ⟨o, e, _⟩ := hex _ h₁ hst₁ b (W.sub b hb); ⟨o, e⟩⟩) ?_ fun _ _ f => f.elim
    rintro r s₁ ⟨v, h₁, tk₁, rfl, rfl, hP, hst₁, S₁, P₁, tg₁⟩
    have hd : ds[i]? = some ds[i] := List.getElem?_eq_getElem hlt
    refine wpAny_assign_Name (storeVar (s := { s with heap := h₁, toks := tk₁ }) S₁ (V.mono tg₁ (hv i v _ hd hP)) ho fun h₃ tk₃ S₃ P₃ => ?_)
    have P₃' := P₁.stp P₃
    refine wpAny_mono (turn i _ ρ' σ' hd hJ _ S₃) ?_ fun _ _ f => f.elim
    rintro f s₄ ⟨af, ρ₄, σ₄, h₄, tk₄, rfl, S₄, P₄, hf, q⟩
    have P₄' := P₃'.stp P₄
    have hfr : ∀ b ∈ fp, ∀ o, h₁.get? b = some o → h₄.get? b = some o := fun b hb o e =>
      P₄.keep b o (P₃.keep b o e (hfp b hb).1 (hσfp b hb) (hfp b hb).2.2) (hfp b hb).1 (hσfp b hb) (hfp b hb).2.2
    have again : J (i + 1) ρ₄ σ₄ → ∃ m, m < ds.length + 1 - i ∧ ∃ i ρ' σ' h' tk, m = ds.length + 1 - i ∧ i ≤ ds.length ∧ ({ s with heap := h₄, toks := tk₄ } : Shared) = { s with heap := h', toks := tk } ∧ SX X g env ρ' σ' h' ∧ StW wr env σ σ' h₂ h' ∧ Sq i h' ∧ TG h₂ h' ∧ J i ρ' σ' := fun hj =>
      ⟨ds.length + 1 - (i + 1), by omega, i + 1, ρ₄, σ₄, h₄, tk₄, rfl, hlt, rfl, S₄, P₄', W.frame _ _ _ hst₁ hfr, tg₁.trans ((Stp.tg S₁ P₃).trans (Stp.tg S₃ P₄)), hj⟩
    cases af with
    | nxt => simp only [FR] at hf; subst hf; exact again q
    | cont => simp only [FR] at hf; subst hf; exact again q
    | brk => simp only [FR] at hf; subst hf; exact fin .nxt _ _ _ _ _ S₄ P₄' rfl q
    | ret r => obtain ⟨u, rfl, hu⟩ := hf; exact fin (.ret r) _ _ _ _ _ S₄ P₄' ⟨u, rfl, hu⟩ q
  · have he : i = ds.length := by omega
    subst he
    refine W.done _ _ _ hst' fun h₁ tk₁ hk₁ => ?_
    have S₁ : SX X g env ρ' σ' h₁ := St.iter S' (wr := wr) (fun b hb => ⟨(hwr b hb).1, (hwr b hb).2.1, hσfp b (W.sub b hb), (hwr b hb).2.2.2, let ⟨o, _, q⟩ := hex _ h' hst' b (W.sub b hb); q hb⟩) hk₁
    have nw : ∀ b o, s.heap.get? b = some o → b ∉ wr := fun b o e hb => by rw [hnew b hb] at e; cases e
    refine wpAny_execs_nil (.mk (h' := h₁) (tk := tk₁) .nxt _ _ S₁ ⟨fun b o e q1 q2 q3 => hk₁ b o (nw b o e) (P'.keep b o (nw b o e) (x2 b o e) q1 q2 q3), fun b o e => ?_, fun b c e => (P'.sig b c e).imp id x2.none⟩ rfl (done _ _ hJ))
    obtain ⟨o', e'⟩ := P'.dom b o (x2 b o e)
    exact ⟨o', hk₁ b o' (nw b o e) e'⟩
theorem X1.for {x : Str} {px pos : Pos} {iter : Expr} {body : List Stmt} {Q : AF → Rho → Sig → Prop} (H : Itr X A g env ρ σ iter (ForQ X A g env ρ σ x body Q))
    (ho : stOk env x = true := by rfl) (hs : ∀ x, foldedSetIterable iter env x = pure x := by intro _; rfl) : X1 X A g env ρ σ (.For (.Name x px) iter body [] pos) Q := fun s S => for_at S (H s S) ho hs
end
end Mine

namespace Mine
open PySem PySem.W PySem.Calls PyProof.Rows

def Sig.del (σ : Sig) (a : Addr) : Sig := fun b => if b = a then none else σ b
def rg (a c : Int) (n : Nat) : List D := (List.range n).map fun (i : Nat) => .int (a + (i : Int) * c)
theorem rg_length (a c : Int) (n : Nat) : (rg a c n).length = n := by simp [rg]
theorem rg_get {a c : Int} {n i : Nat} {d : D} (h : (rg a c n)[i]? = some d) : i < n ∧ d = .int (a + i * c) := by
  simp only [rg, List.getElem?_map, Option.map_eq_some_iff] at h
  obtain ⟨j, hj, rfl⟩ := h
  have := List.getElem?_eq_some_iff.mp hj
  obtain ⟨h1, h2⟩ := this
  simp at h1 h2
  subst h2
  exact ⟨h1, rfl⟩

section
variable {X : Cx} {A : Around} {g : Heap} {env : Env} {ρ : Rho} {σ : Sig} {E : Value → Shared → Prop}

theorem callT_raw {x : Str} {T : String} {p pos : Pos} {e : Expr} {rest : List Expr} {Q : List Res → Prop} {s : Shared} (hg : X.mg x = none) (hb : X.mb x = some (.type T))
    (H : Es X A g env ρ σ (e :: rest) Q) (S : SX X g env ρ σ s.heap) {P : Value → Shared → Prop}
    (k : ∀ vs rs h' tk, SX X g env ρ σ h' → Ext s.heap h' → VRs s.heap h' rs vs → Q rs → wpAny (model X.prog X.w) A (call (.type T) vs) P E { s with heap := h', toks := tk })
    (he : starEach (e :: rest) env = (false, eval e env) :: starEach rest env)
    (hplain : (backTo pos (starEach rest env)).any (·.1) = false)
    (hk : env.kindOf x = some .globalImplicit) (hd : (x == ("__debug__" : Str)) = false) :
    wpAny (model X.prog X.w) A (eval (.Call (.Name x p) (e :: rest) [] pos) env) P E s := by
  have H0 : Ev X A g env ρ σ (.Name x p) (fun r => r = .d (.val (.type T))) := Ev.builtin _ hg hb rfl hk hd
  refine Call_ (use (H0 s S) S fun v r h1 tk1 S1 x1 y1 e1 => ?_)
  subst e1
  simp only [VR, V] at y1
  subst y1
  exact PyProof.Rows.callWith_type1 (useS (H pos _ S1) S1 fun vs rs h2 tk2 S2 x2 y2 q => k vs rs h2 tk2 S2 (x1.trans x2) (y2.base x1) q) he hplain

theorem pushed_ne {h : Heap} {b : Addr} {o : Obj} (e : h.get? b = some o) : b ≠ h.objs.size := Nat.ne_of_lt (Heap.lt_size e)
/-- a new object's address is apart from all that stands -/
theorem St.freshA {h : Heap} (S : SX X g env ρ σ h) {a : Addr} (hn : h.get? a = none) : a ≠ env.locals ∧ σ a = none ∧ ∀ x, env.cells.lookup x ≠ some a := by
  obtain ⟨h1, h2, _⟩ := S.fresh hn
  refine ⟨h2, h1, fun x hx => ?_⟩
  obtain ⟨_, v, o, ho, _⟩ := S.cok x a hx
  rw [hn] at ho; cases ho
theorem St.tupA {h : Heap} (S : SX X g env ρ σ h) {a : Addr} {items : Array Value} (t : IsTup h a items) : a ≠ env.locals ∧ σ a = none ∧ ∀ x, env.cells.lookup x ≠ some a := by
  refine ⟨?_, ?_, fun x hx => ?_⟩
  · rintro rfl
    obtain ⟨m, hn, _⟩ := S.ns
    exact Ns_noTup hn _ t
  · cases e : σ a with
    | none => rfl
    | some c => exact absurd t ((S.own a c e).1.noTup _)
  · obtain ⟨_, v, hc⟩ := S.cok x a hx
    exact IsCell.noTup hc _ t
theorem St.listA {h : Heap} (S : SX X g env ρ σ h) {a : Addr} {items : Array Value} (t : h.IsList a items) : a ≠ env.locals ∧ ∀ x, env.cells.lookup x ≠ some a := by
  obtain ⟨o, ho, hc, n, hd⟩ := t
  refine ⟨?_, fun x hx => ?_⟩
  · rintro rfl
    obtain ⟨m, ⟨o', es, ep, ho', hd', _⟩, _⟩ := S.ns
    rw [ho] at ho'; cases ho'; rw [hd] at hd'; cases hd'
  · obtain ⟨_, v, o', ho', hd'⟩ := S.cok x a hx
    rw [ho] at ho'; cases ho'; rw [hd] at hd'; cases hd'

/-! ranges -/
theorem itOK_range {n : Nat} (hA : A.handled = none) {h₀ h : Heap} (S : SX X g env ρ σ h₀) (x : Ext h₀ h) (a c : Int) {k : Nat} {hp : Heap} (hx : Ext h hp)
    (hi : hp.get? h.objs.size = some { cls := .type "range_iterator", dict := none, data := .fields #[rawInt a, rawInt k, rawInt c], slots := #[] }) : ItOK X A env σ h₀ hp (.ref h.objs.size) (rg a c k) := by
  have hn : h₀.get? h.objs.size = none := x.none (Heap.get?_none_of_le (Nat.le_refl _))
  refine ⟨h.objs.size, [h.objs.size], [h.objs.size], _, _, rfl, by rw [rg_length]; exact Walks.range hA h.objs.size a c k, ?_, ?_, ?_, ?_, ?_⟩
  · show IsRangeIter hp h.objs.size _ _ c
    rw [show a + ((0 : Nat) : Int) * c = a by simp, show ((k : Int) - ((0 : Nat) : Int)) = k by simp]; exact hi
  · intro b hb; rw [List.mem_singleton.mp hb]; exact hn
  · intro b hb; rw [List.mem_singleton.mp hb]; exact S.freshA hn
  · intro i h' hst b hb
    rw [List.mem_singleton.mp hb]
    refine ⟨_, hst, fun _ items t => ?_⟩
    obtain ⟨o, ho, hc, _⟩ := t
    have hst' : h'.get? h.objs.size = some _ := hst
    rw [hst'] at ho; cases ho; simp at hc
  · rintro i v d hd ⟨t, rfl⟩
    obtain ⟨_, rfl⟩ := rg_get hd
    simp [V]

theorem size_one (a b : Int) : Builtin.Range.rangeSize a b 1 = ((b - a).toNat : Int) := by
  rw [rangeSize_one]; split <;> omega
theorem size_down (a b : Int) : Builtin.Range.rangeSize a b (-1) = ((a - b).toNat : Int) := by
  unfold Builtin.Range.rangeSize
  simp only [show ¬ (-1 : Int) > 0 by decide, if_false, show -(-1 : Int) = 1 by decide, Int.ediv_one]
  split <;> omega
def SmallI (i : Int) : Prop := -(2 ^ 60) ≤ i ∧ i < 2 ^ 60
theorem small_up {a b : Int} (ha : SmallI a) (hb : SmallI b) : Builtin.Range.small a b 1 = true := by
  obtain ⟨h1, h2⟩ := ha; obtain ⟨h3, h4⟩ := hb
  exact small_one (by omega) (by omega) (by omega) (by omega)
theorem small_down {a b : Int} (ha : SmallI a) (hb : SmallI b) : Builtin.Range.small a b (-1) = true := by
  obtain ⟨h1, h2⟩ := ha; obtain ⟨h3, h4⟩ := hb
  unfold Builtin.Range.small
  rw [size_down]
  simp only [Builtin.Range.rangeFitsLong, Bool.and_eq_true, Bool.or_eq_true, decide_eq_true_eq, beq_iff_eq, show ¬ (-1 : Int) > 0 by decide, if_false]
  omega

theorem vs1 {h₀ h : Heap} {a : Int} {vs : List Value} (y : VRs h₀ h [.d (.int a)] vs) : ∃ t, vs = [.int a t] := by
  obtain ⟨v, ws, rfl, h1, rfl⟩ := y
  simp only [VR, V] at h1; obtain ⟨t, rfl⟩ := h1; exact ⟨t, rfl⟩
theorem vs2 {h₀ h : Heap} {a b : Int} {vs : List Value} (y : VRs h₀ h [.d (.int a), .d (.int b)] vs) : ∃ t u, vs = [.int a t, .int b u] := by
  obtain ⟨v, ws, rfl, h1, v2, ws2, rfl, h2, rfl⟩ := y
  simp only [VR, V] at h1 h2; obtain ⟨t, rfl⟩ := h1; obtain ⟨u, rfl⟩ := h2; exact ⟨t, u, rfl⟩
theorem vs3 {h₀ h : Heap} {a b c : Int} {vs : List Value} (y : VRs h₀ h [.d (.int a), .d (.int b), .d (.int c)] vs) : ∃ t u x, vs = [.int a t, .int b u, .int c x] := by
  obtain ⟨v, ws, rfl, h1, v2, ws2, rfl, h2, v3, ws3, rfl, h3, rfl⟩ := y
  simp only [VR, V] at h1 h2 h3; obtain ⟨t, rfl⟩ := h1; obtain ⟨u, rfl⟩ := h2; obtain ⟨x, rfl⟩ := h3; exact ⟨t, u, x, rfl⟩

theorem Itr.range1 {n : Nat} (hA : Rm n A) {x : Str} {p pos : Pos} {e : Expr} {b : Int} {Q : List D → Prop} (hg : X.mg x = none) (hb : X.mb x = some (.type "range"))
    (H : Ev X A g env ρ σ e (fun r => r = .d (.int b))) (hsb : SmallI b) (q : Q (rg 0 1 b.toNat))
    (he : starEach [e] env = [(false, eval e env)] := by rfl) (hk : env.kindOf x = some .globalImplicit := by rfl) (hd : (x == ("__debug__" : Str)) = false := by decide) :
    Itr X A g env ρ σ (.Call (.Name x p) [e] [] pos) Q := fun s S => by
  have HE : Es X A g env ρ σ [e] (fun rs => rs = [.d (.int b)]) := Es.cons (H.mono fun r hr => Es.nil (by rw [hr])) he
  refine callT_raw hg hb HE S (fun vs rs h1 tk1 S1 x1 y1 hr => ?_) he rfl hk hd
  subst hr
  obtain ⟨t, rfl⟩ := vs1 y1
  refine call_range_1 (wpAny_pyIter_range (IsRange.new _ _ _ _ _ _ _) (small_up ⟨by decide, by decide⟩ hsb) ?_)
  rw [size_one]
  have xp := Ext.push h1 { cls := .type "range", data := .fields #[.int 0 tk1, .int b t, .int 1 (tk1 + 1)] }
  refine ⟨_, _, _, rfl, x1.trans (xp.trans (Ext.push _ _)), itOK_range (n := n) hA.handled S (x1.trans xp) 0 1 (Ext.push _ _) (Heap.get?_push_size _ rfl), ?_⟩
  simpa using q
theorem Itr.range2 {n : Nat} (hA : Rm n A) {x : Str} {p pos : Pos} {e e2 : Expr} {a b : Int} {Q : List D → Prop} (hg : X.mg x = none) (hb : X.mb x = some (.type "range"))
    (H : Es X A g env ρ σ [e, e2] (fun rs => rs = [.d (.int a), .d (.int b)])) (hsa : SmallI a) (hsb : SmallI b) (q : Q (rg a 1 (b - a).toNat))
    (he : starEach [e, e2] env = (false, eval e env) :: starEach [e2] env := by rfl) (hplain : (backTo pos (starEach [e2] env)).any (·.1) = false := by rfl) (hk : env.kindOf x = some .globalImplicit := by rfl) (hd : (x == ("__debug__" : Str)) = false := by decide) :
    Itr X A g env ρ σ (.Call (.Name x p) [e, e2] [] pos) Q := fun s S => by
  refine callT_raw hg hb H S (fun vs rs h1 tk1 S1 x1 y1 hr => ?_) he hplain hk hd
  subst hr
  obtain ⟨t, u, rfl⟩ := vs2 y1
  refine call_range_2 (wpAny_pyIter_range (IsRange.new _ _ _ _ _ _ _) (small_up hsa hsb) ?_)
  rw [size_one]
  have xp := Ext.push h1 { cls := .type "range", data := .fields #[.int a t, .int b u, .int 1 tk1] }
  exact ⟨_, _, _, rfl, x1.trans (xp.trans (Ext.push _ _)), itOK_range (n := n) hA.handled S (x1.trans xp) a 1 (Ext.push _ _) (Heap.get?_push_size _ rfl), q⟩
theorem Itr.down {n : Nat} (hA : Rm n A) {x : Str} {p pos : Pos} {e e2 e3 : Expr} {a b : Int} {Q : List D → Prop} (hg : X.mg x = none) (hb : X.mb x = some (.type "range"))
    (H : Es X A g env ρ σ [e, e2, e3] (fun rs => rs = [.d (.int a), .d (.int b), .d (.int (-1))])) (hsa : SmallI a) (hsb : SmallI b) (q : Q (rg a (-1) (a - b).toNat))
    (he : starEach [e, e2, e3] env = (false, eval e env) :: starEach [e2, e3] env := by rfl) (hplain : (backTo pos (starEach [e2, e3] env)).any (·.1) = false := by rfl) (hk : env.kindOf x = some .globalImplicit := by rfl) (hd : (x == ("__debug__" : Str)) = false := by decide) :
    Itr X A g env ρ σ (.Call (.Name x p) [e, e2, e3] [] pos) Q := fun s S => by
  refine callT_raw hg hb H S (fun vs rs h1 tk1 S1 x1 y1 hr => ?_) he hplain hk hd
  subst hr
  obtain ⟨t, u, x3, rfl⟩ := vs3 y1
  refine call_range_3 (by decide) (wpAny_pyIter_range (IsRange.new _ _ _ _ _ _ _) (small_down hsa hsb) ?_)
  rw [size_down]
  have xp := Ext.push h1 { cls := .type "range", data := .fields #[.int a t, .int b u, .int (-1) x3] }
  exact ⟨_, _, _, rfl, x1.trans (xp.trans (Ext.push _ _)), itOK_range (n := n) hA.handled S (x1.trans xp) a (-1) (Ext.push _ _) (Heap.get?_push_size _ rfl), q⟩

/-! lists, tuples -/
theorem itOK_list (hA : A.handled = none) {h₀ h : Heap} (S : SX X g env ρ σ h₀) (x : Ext h₀ h) {a : Addr} {ds : List D} (hl : LI h a ds) (ha : σ a = none) (haL : a ≠ env.locals) (haC : ∀ x, env.cells.lookup x ≠ some a) :
    ItOK X A env σ h₀ (h.push { cls := .type "list_iterator", data := .fields #[.ref a, .int 0 0] }) (.ref h.objs.size) ds := by
  have hn : h₀.get? h.objs.size = none := x.none (Heap.get?_none_of_le (Nat.le_refl _))
  obtain ⟨items, hi, hv⟩ := hl
  have hz : items.size = ds.length := by rw [hv.length]; simp
  have hne : a ≠ h.objs.size := by obtain ⟨o, ho, _⟩ := hi; exact pushed_ne ho
  have W := Walks.list (prog := X.prog) (w := X.w) hA h.objs.size a hne items
  rw [hz] at W
  refine ⟨h.objs.size, [h.objs.size, a], [h.objs.size], _, _, rfl, W, ⟨⟨_, Heap.get?_push_size _ rfl, rfl, rfl⟩, hi.push _⟩, ?_, ?_, ?_, ?_⟩
  · intro b hb; rw [List.mem_singleton.mp hb]; exact hn
  · intro b hb
    rcases List.mem_cons.mp hb with rfl | hb
    · exact S.freshA hn
    · rw [List.mem_singleton.mp hb]; exact ⟨haL, ha, haC⟩
  · rintro i h' ⟨⟨o, ho, hc, _⟩, ⟨o2, ho2, hc2, _⟩⟩ b hb
    rcases List.mem_cons.mp hb with rfl | hb
    · refine ⟨o, ho, fun _ items t => ?_⟩
      obtain ⟨o', ho', hc', _⟩ := t
      rw [ho] at ho'; cases ho'; rw [hc] at hc'; simp at hc'
    · rw [List.mem_singleton.mp hb]
      refine ⟨o2, ho2, fun _ items t => ?_⟩
      obtain ⟨o', ho', hc', _⟩ := t
      rw [ho2] at ho'; cases ho'; rw [hc2] at hc'; simp at hc'
  · intro i v d hd hP
    obtain ⟨v', hv', hV⟩ := hv.get i d hd
    have hP' : items[i]? = some v := hP
    rw [← Array.getElem?_toList, hv'] at hP'
    cases hP'
    exact hV.mono (Ext.push _ _).tg
theorem itOK_tup (hA : A.handled = none) {h₀ h : Heap} (S : SX X g env ρ σ h₀) (x : Ext h₀ h) {a : Addr} {items : Array Value} {ds : List D} (ht : IsTup h a items) (hv : Vs h ds items.toList) :
    ItOK X A env σ h₀ (h.push { cls := .type "tuple_iterator", data := .fields #[.ref a, .int 0 0] }) (.ref h.objs.size) ds := by
  have hn : h₀.get? h.objs.size = none := x.none (Heap.get?_none_of_le (Nat.le_refl _))
  have hz : items.size = ds.length := by rw [hv.length]; simp
  have hne : a ≠ h.objs.size := by obtain ⟨o, ho, _⟩ := ht; exact pushed_ne ho
  have hT : h.IsTuple a items := ht
  have W := Walks.tuple (prog := X.prog) (w := X.w) hA h.objs.size a hne items
  rw [hz] at W
  refine ⟨h.objs.size, [h.objs.size, a], [h.objs.size], _, _, rfl, W, ⟨⟨_, Heap.get?_push_size _ rfl, rfl, rfl⟩, hT.push _⟩, ?_, ?_, ?_, ?_⟩
  · intro b hb; rw [List.mem_singleton.mp hb]; exact hn
  · intro b hb
    rcases List.mem_cons.mp hb with rfl | hb
    · exact S.freshA hn
    · rw [List.mem_singleton.mp hb]; exact (S.ext x).tupA ht
  · rintro i h' ⟨⟨o, ho, hc, _⟩, ⟨o2, ho2, hc2, r2⟩⟩ b hb
    rcases List.mem_cons.mp hb with rfl | hb
    · refine ⟨o, ho, fun _ items t => ?_⟩
      obtain ⟨o', ho', hc', _⟩ := t
      rw [ho] at ho'; cases ho'; rw [hc] at hc'; simp at hc'
    · rw [List.mem_singleton.mp hb]
      exact ⟨o2, ho2, fun hw => absurd (List.mem_singleton.mp hw) hne⟩
  · intro i v d hd hP
    obtain ⟨v', hv', hV⟩ := hv.get i d hd
    have hP' : items[i]? = some v := hP
    rw [← Array.getElem?_toList, hv'] at hP'
    cases hP'
    exact hV.mono (Ext.push _ _).tg
theorem Itr.new {n : Nat} (hA : Rm n A) {e : Expr} {Q : List D → Prop} (H : Ev X A g env ρ σ e (fun r => ∃ ds, r = .new ds ∧ Q ds)) : Itr X A g env ρ σ e Q := fun s S => by
  refine use (H s S) S fun v r h1 tk1 S1 x1 y1 ⟨ds, e, q⟩ => ?_
  subst e
  obtain ⟨a, rfl, hn, hp⟩ := y1
  obtain ⟨items, hi, hv⟩ := hp.li
  have hi2 : Heap.IsList (Shared.heap { s with heap := h1, toks := tk1 }) a items := hi
  refine wpAny_pyIter_list hi2 ?_
  obtain ⟨f1, f2, f3⟩ := S.freshA hn
  exact ⟨ds, _, _, rfl, x1.trans (Ext.push _ _), itOK_list hA.handled S x1 ⟨items, hi, hv⟩ f2 f1 f3, q⟩
theorem Itr.base {n : Nat} (hA : Rm n A) {x : Str} {pos : Pos} {a : Addr} {ds : List D} {Q : List D → Prop} (hl : ρ.lookup x = some (.val (.ref a))) (hx : LI g a ds) (q : Q ds) (ho : varOk env x = true := by rfl) : Itr X A g env ρ σ (.Name x pos) Q := fun s S => by
  have H : Ev X A g env ρ σ (.Name x pos) (fun r => r = .d (.val (.ref a))) := Ev.name _ hl ho rfl
  refine use (H s S) S fun v r h1 tk1 S1 x1 y1 e => ?_
  subst e
  simp only [VR, V] at y1
  subst y1
  have hli : LI h1 a ds := hx.ext S1.keep
  obtain ⟨items, hi, hv⟩ := hli
  have hi2 : Heap.IsList (Shared.heap { s with heap := h1, toks := tk1 }) a items := hi
  refine wpAny_pyIter_list hi2 ?_
  obtain ⟨f1, f3⟩ := S1.listA hi
  have f2 : σ a = none := by
    cases e : σ a with
    | none => rfl
    | some c =>
      have := (S.own a c e).2.1
      obtain ⟨_, ⟨o, ho, _⟩, _⟩ := hx
      rw [this] at ho; cases ho
  exact ⟨ds, _, _, rfl, x1.trans (Ext.push _ _), itOK_list hA.handled S x1 ⟨items, hi, hv⟩ f2 f1 f3, q⟩
theorem Stp.del {σ' : Sig} {h h' : Heap} {a : Addr} (P : Stp env (σ.del a) σ' h h') : Stp env σ σ' h h' :=
  ⟨fun b o e h1 h2 h3 => P.keep b o e h1 (by unfold Sig.del; split <;> simp_all) h3, P.dom, fun b c e => (P.sig b c e).imp (fun ⟨c, hc⟩ => by unfold Sig.del at hc; split at hc <;> first | cases hc | exact ⟨c, hc⟩) id⟩
/-- a loop over a list of one's own that its body does not touch: it leaves the ledger -/
theorem X1.forOwn {n : Nat} (hA : Rm n A) {x y : Str} {px pos pos' : Pos} {a : Addr} {ds : List D} {body : List Stmt} {Q : AF → Rho → Sig → Prop} (hl : ρ.lookup y = some (.val (.ref a))) (hσ : σ a = some (.list ds))
    (H : ForQ X A g env ρ (σ.del a) x body Q ds) (hv : varOk env y = true := by rfl) (ho : stOk env x = true := by rfl) : X1 X A g env ρ σ (.For (.Name x px) (.Name y pos') body [] pos) Q := fun s S => by
  have S' : SX X g env ρ (σ.del a) s.heap := S.weakenS fun b c e => by unfold Sig.del at e; split at e <;> first | cases e | exact e
  refine wpAny_mono (for_at S' ?_ ho (fun _ => rfl)) (fun f s' ⟨af, ρ', σ', h', tk, e, x, y, z, q⟩ => ⟨af, ρ', σ', h', tk, e, x, y.del, z, q⟩) fun _ _ f => f
  have HN : Ev X A g env ρ (σ.del a) (.Name y pos') (fun r => r = .d (.val (.ref a))) := Ev.name _ hl hv rfl
  have hli : LI s.heap a ds := PL.li (S.own a _ hσ).1
  refine use (HN s S') S' fun v r h1 tk1 S1 x1 y1 e => ?_
  subst e
  simp only [VR, V] at y1
  subst y1
  have hli := hli.ext x1
  obtain ⟨items, hi, hv⟩ := hli
  have hi2 : Heap.IsList (Shared.heap { s with heap := h1, toks := tk1 }) a items := hi
  refine wpAny_pyIter_list hi2 ?_
  obtain ⟨f1, f3⟩ := S1.listA hi
  exact ⟨ds, _, _, rfl, x1.trans (Ext.push _ _), itOK_list hA.handled S' x1 ⟨items, hi, hv⟩ (by simp [Sig.del]) f1 f3, H⟩
theorem Itr.tup {n : Nat} (hA : Rm n A) {e : Expr} {Q : List D → Prop} (H : Ev X A g env ρ σ e (fun r => ∃ ds, r = .d (.tup ds) ∧ Q ds)) : Itr X A g env ρ σ e Q := fun s S => by
  refine use (H s S) S fun v r h1 tk1 S1 x1 y1 ⟨ds, e, q⟩ => ?_
  subst e
  simp only [VR, V] at y1
  obtain ⟨a, items, rfl, hi, hv⟩ := y1
  have hi2 : IsTup (Shared.heap { s with heap := h1, toks := tk1 }) a items := hi
  refine iter_tuple hi2 ?_
  exact ⟨ds, _, _, rfl, x1.trans (Ext.push _ _), itOK_tup hA.handled S x1 hi hv, q⟩
end
end Mine

namespace Mine
open PySem PySem.W PySem.Calls PyProof.Rows

theorem atKey_stored (xs : List (List Int × Addr × Value)) (k k' : List Int) (a : Addr) (v : Value) : (atKey (storedH xs k a v) k').map (·.2) = if k' = k then some v else (atKey xs k').map (·.2) := by
  unfold storedH
  by_cases hs : (atKey xs k).isSome = true
  · rw [if_pos hs]
    induction xs with
    | nil => simp [atKey] at hs
    | cons x xs ih =>
      have hp1 : (putAt k v x).1 = x.1 := by unfold putAt; split <;> rfl
      by_cases hx : x.1 = k'
      · have e1 : (atKey (List.map (putAt k v) (x :: xs)) k') = some (putAt k v x).2 := by simp [atKey, hp1, hx]
        have e2 : (atKey (x :: xs) k') = some x.2 := by simp [atKey, hx]
        rw [e1, e2]
        by_cases hk : k' = k
        · subst hk; simp [putAt, hx]
        · simp [putAt, hx, hk]
      · have e1 : (atKey (List.map (putAt k v) (x :: xs)) k') = atKey (List.map (putAt k v) xs) k' := by simp [atKey, hp1, hx]
        have e2 : (atKey (x :: xs) k') = atKey xs k' := by simp [atKey, hx]
        rw [e1, e2]
        by_cases hxk : x.1 = k
        · have hkk : k' ≠ k := fun e => hx (by rw [hxk, e])
          rw [if_neg hkk]
          by_cases hs' : (atKey xs k).isSome = true
          · rw [ih hs', if_neg hkk]
          · have hnm : k ∉ xs.map (·.1) := by
              intro hm
              obtain ⟨y, hy, e⟩ := List.mem_map.mp hm
              apply hs'
              simp only [atKey, Option.isSome_map]
              rw [List.find?_isSome]
              exact ⟨y, hy, by simp [e]⟩
            rw [map_putAt_of_not_mem xs k v hnm]
        · have e3 : atKey (x :: xs) k = atKey xs k := by simp [atKey, hxk]
          rw [e3] at hs
          exact ih hs
  · rw [if_neg hs]
    have hn : atKey xs k = none := by simpa using hs
    unfold atKey at hn ⊢
    rw [List.find?_append]
    by_cases hk : k' = k
    · subst hk
      have : (xs.find? fun x => decide (x.1 = k')) = none := by simpa using hn
      rw [this]; simp
    · rw [if_neg hk]
      have : ([(k, a, v)].find? fun x => decide (x.1 = k')) = none := by simp [Ne.symm hk]
      rw [this]; simp
theorem storedH_length (xs : List (List Int × Addr × Value)) (k : List Int) (a : Addr) (v : Value) : (storedH xs k a v).length ≤ xs.length + 1 := by
  unfold storedH; split <;> simp
theorem valueAt_stored (xs : List (Int × Value)) (k k' : Int) (v : Value) : valueAt (stored xs k v) k' = if k' = k then some v else valueAt xs k' := by
  unfold stored
  by_cases hs : (xs.any fun kv => decide (kv.1 = k)) = true
  · rw [if_pos hs]
    induction xs with
    | nil => simp at hs
    | cons x xs ih =>
      by_cases hx : x.1 = k'
      · by_cases hk : k' = k
        · subst hk; simp [valueAt, hx]
        · have hxk : x.1 ≠ k := fun e => hk (by rw [← hx, e])
          simp [valueAt, hx, hk]
      · have e2 : (valueAt (x :: xs) k') = valueAt xs k' := by simp [valueAt, hx]
        rw [e2]
        have e1 : (valueAt ((x :: xs).map fun kv => if kv.1 = k then (kv.1, v) else kv) k') = valueAt (xs.map fun kv => if kv.1 = k then (kv.1, v) else kv) k' := by
          rw [List.map_cons]
          have hp1 : (if x.1 = k then (x.1, v) else x).1 = x.1 := by split <;> rfl
          simp [valueAt, hp1, hx]
        rw [e1]
        by_cases hxk : x.1 = k
        · have hkk : k' ≠ k := fun e => hx (by rw [hxk, e])
          rw [if_neg hkk]
          by_cases hs' : (xs.any fun kv => decide (kv.1 = k)) = true
          · rw [ih hs', if_neg hkk]
          · have hnm : k ∉ xs.map (·.1) := by
              intro hm
              obtain ⟨y, hy, e⟩ := List.mem_map.mp hm
              apply hs'
              rw [List.any_eq_true]
              exact ⟨y, hy, by simp [e]⟩
            rw [map_store_of_not_mem xs k v hnm]
        · refine ih ?_
          simpa [List.any_cons, hxk] using hs
  · rw [if_neg hs]
    unfold valueAt
    rw [List.find?_append]
    by_cases hk : k' = k
    · subst hk
      have : (xs.find? fun kv => kv.1 = k') = none := by
        rw [List.find?_eq_none]
        intro x hx e
        apply hs
        rw [List.any_eq_true]
        exact ⟨x, hx, by simpa using e⟩
      rw [this]; simp
    · rw [if_neg hk]
      have : ([(k, v)].find? fun kv => kv.1 = k') = none := by simp [Ne.symm hk]
      rw [this]; simp

def setT (f : List Int → Option D) (k : List Int) (d : D) : List Int → Option D := fun k' => if k' = k then some d else f k'
def setI (f : Int → Option D) (k : Int) (d : D) : Int → Option D := fun k' => if k' = k then some d else f k'

section
variable {X : Cx} {A : Around} {g : Heap} {env : Env} {ρ : Rho} {σ : Sig} {E : Value → Shared → Prop}

theorem setItem_plain {l : Addr} {items : Array Value} {k : Int} {t : Tok} {v : Value} {s : Shared} {Q : Unit → Shared → Prop} (hl : s.heap.PlainList l items)
    (h0 : 0 ≤ k) (hfit : k < 2 ^ 63) (hn : k < items.size)
    (hQ : ∀ h', h'.PlainList l (items.setIfInBounds k.toNat v) → Heap.SameBut l s.heap h' → Q () { s with heap := h' }) :
    wpAny (model X.prog X.w) A (setItem (.ref l) (.int k t) v) Q E s := by
  have hil := hl.isList
  obtain ⟨n, ho⟩ := hl
  unfold setItem
  try with_reducible refine wpAny_holding ?_
  refine wpAny_bind (wpAny_sequenceKey hil.typeIs (by decide) ?_)
  refine wpAny_bind (wpAny_callSpecial?_slot (name := Str.ofString "__setitem__") hil.typeIs slot_list_setitem
    (wpAny_call_entry slot_list_setitem hil.typeIs entry_list_setitem ?_ (args_list_setitem _ _ _)))
  show wpAny _ _ (Builtin.List.listSubscript? (.int k t) >>= _) _ _ s
  refine wpAny_bind (wpAny_listSubscript_int (fitsIndex_of h0 hfit) ?_)
  clear hfit
  obtain ⟨j, rfl⟩ := Int.eq_ofNat_of_zero_le h0
  have hj : j < items.size := by omega
  have hx' : items[j]? = some items[j] := Array.getElem?_eq_getElem hj
  show wpAny _ _ ((seqItemAt l j >>= fun r => pure (r.map (j, ·))) >>= _) _ _ s
  refine wpAny_bind (wpAny_bind (wpAny_seqItemAt ho rfl (wpAny_pure ?_)))
  rw [hx']
  show wpAny _ _ (setSeqItemAt l j v >>= _) _ _ s
  have e : Obj.mapSeq (·.setIfInBounds j v) { cls := .type "list", data := .seq items n } = { cls := .type "list", data := .seq (items.setIfInBounds j v) n } := by simp [Obj.mapSeq]
  have hfin : (s.heap.update l (Obj.mapSeq (·.setIfInBounds j v))).PlainList l (items.setIfInBounds j v) :=
    ⟨n, by rw [Heap.get?_update_self _ ho (by rw [e]; rfl), e]⟩
  refine wpAny_bind (wpAny_setSeqItemAt ho rfl ?_)
  first
    | exact wpAny_bind (wpAny_pure (wpAny_pure ⟨.none, rfl, wpAny_pure (hQ _ hfin (Heap.SameBut.update ..))⟩))
    | exact wpAny_pure ⟨.none, rfl, wpAny_pure (hQ _ hfin (Heap.SameBut.update ..))⟩
theorem turnX {s : Shared} {h₁ h' : Heap} {tk : Nat} {a : Addr} {c c' : Cell} {Q : AF → Rho → Sig → Prop} (x : Ext s.heap h₁) (S : SX X g env ρ σ h₁) (hσ : σ a = some c) (hs : Heap.SameBut a h₁ h') (hc : TG h₁ h' → c'.In X.prog X.w h' a) (q : Q .nxt ρ (σ.put a c')) :
    PX X g env σ s Q .next { s with heap := h', toks := tk } := by
  have S' := S.turn (c' := c') hσ hs hc
  refine .mk (h' := h') (tk := tk) .nxt _ _ S' ((Stp.of_ext x).trans (.same hs (.inr (.inl ⟨c, hσ⟩)) ?_ fun b cc e => ?_)) rfl q
  · obtain ⟨o, ho, _⟩ := (S'.own a c' (Sig.put_same _ _ _)).1.some; exact ⟨o, ho⟩
  · by_cases hb : b = a
    · subst hb; exact ⟨c, hσ⟩
    · rw [Sig.put_ne _ _ hb] at e; exact ⟨cc, e⟩

/-- d[i, j] = e -/
theorem X1.setT {o i value : Expr} {pp pos : Pos} {n : Nat} {Q : AF → Rho → Sig → Prop} (hA : Rm n A)
    (H : Ev X A g env ρ σ value (fun r => ∃ d, r = .d d ∧ Ev X A g env ρ σ o (fun r2 => ∃ a m f, r2 = .d (.val (.ref a)) ∧ σ a = some (.dT m f) ∧ m < 2 ^ 20 ∧ Ev X A g env ρ σ i (fun r3 => ∃ k, r3 = .d (.tup (k.map .int)) ∧ Q .nxt ρ (σ.put a (.dT (m + 1) (Mine.setT f k d)))))))
    (hs : swapsWith value (some (.Subscript o i pp)) pos.line env = pure false := by rfl) : X1 X A g env ρ σ (.Assign [.Subscript o i pp] value pos) Q := fun s S => by
  refine wpAny_Assign_Subscript (use (H s S) S fun v r h1 tk1 S1 x1 y1 ⟨d, e1, H2⟩ => use (H2 _ S1) S1 fun u r2 h2 tk2 S2 x2 y2 ⟨a, m, f, e2, hσ, hm, H3⟩ => use (H3 _ S2) S2 fun w r3 h3 tk3 S3 x3 y3 ⟨k, e3, q⟩ => ?_) hs
  subst e1 e2 e3
  simp only [VR, V] at y2
  subst y2
  obtain ⟨b, rfl, hb⟩ := key_of_v (prog := X.prog) (w := X.w) y3
  have hv := V.mono (x2.trans x3).tg y1
  obtain ⟨hsm, xs, hmx, hlen, hf⟩ := (S3.own a _ hσ).1
  have hu : A.units + 1 < cLine := by have := hA.units; omega
  refine wpAny_setItem_heap (knd := tk X.prog X.w) (s := { s with heap := h3, toks := tk3 }) (tupleKind_room_in1 hu) hb hmx (fun h' hm' hs' => ?_) (by have : sizeLine = 2 ^ 24 := rfl; omega)
  refine turnX (c' := .dT (m + 1) (Mine.setT f k d)) (x1.trans (x2.trans x3)) S3 hσ hs' (fun tg => ⟨hsm, _, hm', Nat.le_trans (storedH_length _ _ _ _) (by omega), fun k' => ?_⟩) q
  rw [atKey_stored]
  unfold Mine.setT
  split
  · exact ⟨_, rfl, hv.mono tg⟩
  · exact (hf k').mono tg
/-- da[c] = i, ints for keys -/
theorem X1.setI {o i value : Expr} {pp pos : Pos} {Q : AF → Rho → Sig → Prop}
    (H : Ev X A g env ρ σ value (fun r => ∃ d, r = .d d ∧ Ev X A g env ρ σ o (fun r2 => ∃ a m f, r2 = .d (.val (.ref a)) ∧ σ a = some (.dI m f) ∧ m < 2 ^ 20 ∧ Ev X A g env ρ σ i (fun r3 => ∃ k, r3 = .d (.int k) ∧ Q .nxt ρ (σ.put a (.dI (m + 1) (Mine.setI f k d)))))))
    (hs : swapsWith value (some (.Subscript o i pp)) pos.line env = pure false := by rfl) : X1 X A g env ρ σ (.Assign [.Subscript o i pp] value pos) Q := fun s S => by
  refine wpAny_Assign_Subscript (use (H s S) S fun v r h1 tk1 S1 x1 y1 ⟨d, e1, H2⟩ => use (H2 _ S1) S1 fun u r2 h2 tk2 S2 x2 y2 ⟨a, m, f, e2, hσ, hm, H3⟩ => use (H3 _ S2) S2 fun w r3 h3 tk3 S3 x3 y3 ⟨k, e3, q⟩ => ?_) hs
  subst e1 e2 e3
  simp only [VR, V] at y2 y3
  subst y2
  obtain ⟨t, rfl⟩ := y3
  have hv := V.mono (x2.trans x3).tg y1
  obtain ⟨hsm, xs, hmx, hlen, hf⟩ := (S3.own a _ hσ).1
  refine wpAny_setItem_pairs (knd := intKind X.prog X.w) (s := { s with heap := h3, toks := tk3 }) (intKind_is _ _ k t) hmx (fun h' hm' hs' => ?_) (by have : sizeLine = 2 ^ 24 := rfl; omega)
  refine turnX (c' := .dI (m + 1) (Mine.setI f k d)) (x1.trans (x2.trans x3)) S3 hσ hs' (fun tg => ⟨hsm, _, hm', Nat.le_trans (stored_length_le _ _ _) (by omega), fun k' => ?_⟩) q
  rw [valueAt_stored]
  unfold Mine.setI
  split
  · exact ⟨_, rfl, hv.mono tg⟩
  · exact (hf k').mono tg
/-- xs[i] = e -/
theorem X1.setL {o i value : Expr} {pp pos : Pos} {Q : AF → Rho → Sig → Prop}
    (H : Ev X A g env ρ σ value (fun r => ∃ d, r = .d d ∧ Ev X A g env ρ σ o (fun r2 => ∃ a xs, r2 = .d (.val (.ref a)) ∧ σ a = some (.list xs) ∧ Ev X A g env ρ σ i (fun r3 => ∃ k, r3 = .d (.int k) ∧ 0 ≤ k ∧ k < xs.length ∧ xs.length < 2 ^ 20 ∧ Q .nxt ρ (σ.put a (.list (xs.set k.toNat d)))))))
    (hs : swapsWith value (some (.Subscript o i pp)) pos.line env = pure false := by rfl) : X1 X A g env ρ σ (.Assign [.Subscript o i pp] value pos) Q := fun s S => by
  refine wpAny_Assign_Subscript (use (H s S) S fun v r h1 tk1 S1 x1 y1 ⟨d, e1, H2⟩ => use (H2 _ S1) S1 fun u r2 h2 tk2 S2 x2 y2 ⟨a, xs, e2, hσ, H3⟩ => use (H3 _ S2) S2 fun w r3 h3 tk3 S3 x3 y3 ⟨k, e3, h0, hk, hl, q⟩ => ?_) hs
  subst e1 e2 e3
  simp only [VR, V] at y2 y3
  subst y2
  obtain ⟨t, rfl⟩ := y3
  have hv := V.mono (x2.trans x3).tg y1
  obtain ⟨items, ⟨n, hp⟩, hvs⟩ := (S3.own a _ hσ).1
  have hz : items.size = xs.length := by rw [hvs.length]; simp
  refine setItem_plain (s := { s with heap := h3, toks := tk3 }) ⟨n, hp⟩ h0 (by omega) (by omega) fun h' hp' hs' => ?_
  refine turnX (c' := .list (xs.set k.toNat d)) (x1.trans (x2.trans x3)) S3 hσ hs' (fun tg => ⟨_, hp', ?_⟩) q
  rw [Array.toList_setIfInBounds]
  exact (hvs.set hv _).mono tg
/-- xs.append(e) -/
theorem X1.append {o e : Expr} {apos pos spos : Pos} {Q : AF → Rho → Sig → Prop}
    (H : Ev X A g env ρ σ o (fun r => ∃ a, r = .d (.val (.ref a)) ∧ Ev X A g env ρ σ e (fun r2 => ∃ d xs, r2 = .d d ∧ σ a = some (.list xs) ∧ xs.length < 2 ^ 20 ∧ Q .nxt ρ (σ.put a (.list (xs ++ [d])))) ∧ ∃ xs, σ a = some (.list xs)))
    (hbase : attributeBase o "append" env (eval o env) = eval o env := by rfl)
    (he : starEach [e] env = [(false, eval e env)] := by rfl) (hline : (apos.endLine == pos.line) = true := by rfl)
    (hi : interactive env = false := by rfl) (hs : swapsWith (.Call (.Attribute o "append" apos) [e] [] pos) none spos.line env = pure false := by rfl) :
    X1 X A g env ρ σ (.Expr (.Call (.Attribute o "append" apos) [e] [] pos) spos) Q := fun s S => by
  have K : wpAny (model X.prog X.w) A (eval (.Call (.Attribute o "append" apos) [e] [] pos) env) (fun v s' => v = .none ∧ PX X g env σ s Q .next s') NoE s := by
    refine wpAny_Call_method_late (trees := backTo pos (starEach [e] env)) hbase (by rw [he]; rfl) hline rfl (use (H s S) S fun v r h1 tk1 S1 x1 y1 ⟨a, e1, H2, hσa⟩ => ?_)
    subst e1
    simp only [VR, V] at y1
    subst y1
    obtain ⟨xs₀, hσ₀⟩ := hσa
    obtain ⟨items₀, ⟨n₀, hp₀⟩, _⟩ := (S1.own a _ hσ₀).1
    refine ⟨"list", "list.append", PySem.F.plainAttrs_list, slot_list_append, type_list_append, ⟨_, hp₀, rfl⟩, fun b hb => by cases hb; exact ⟨_, hp₀, rfl⟩, ?_⟩
    rw [he]
    refine callWith_builtin rfl (evalArgs_plain (spliced_cons (use (H2 _ S1) S1 fun u r2 h2 tk2 S2 x2 y2 ⟨d, xs, e2, hσ, hl, q⟩ => spliced_nil ?_)))
    subst e2
    obtain ⟨items, hp, hvs⟩ := (S2.own a _ hσ).1
    have hz : items.size = xs.length := by rw [hvs.length]; simp
    refine wpAny_list_append_plain (s := { s with heap := h2, toks := tk2 }) hp (fun h' hp' hs' => ⟨rfl, ?_⟩) (by have : sizeLine = 2 ^ 24 := rfl; omega)
    refine turnX (c' := .list (xs ++ [d])) (x1.trans x2) S2 hσ hs' (fun tg => ⟨_, hp', ?_⟩) q
    rw [Array.toList_push]
    exact ((hvs.append (Vs.cons y2 .nil))).mono tg
  refine wpAny_Expr (wpAny_mono K (fun v s' ⟨e, p⟩ => ?_) fun _ _ f => f) hi hs
  subst e; exact p
end
end Mine

namespace Mine
open PySem PySem.W PySem.Calls PyProof.Rows

def bindAll : List (Str × Pos) → List D → Rho → Rho
  | x :: xs, d :: ds, ρ => bindAll xs ds ((x.1, d) :: ρ)
  | _, _, ρ => ρ

section
variable {X : Cx} {A : Around} {g : Heap} {env : Env} {ρ : Rho} {σ : Sig} {E : Value → Shared → Prop}

/-! dict displays -/
theorem newA {s : Shared} (S : SX X g env ρ σ s.heap) : (s.heap.objs.size == sysModules) = false := by
  have h : 3 < s.heap.objs.size := S.gl.g.lt
  rw [beq_eq_false_iff_ne]
  intro e
  have e' : s.heap.objs.size = 1 := e
  rw [e'] at h
  exact absurd h (by decide)
theorem stpNew {h₀ h₁ : Heap} {σ' : Sig} {a : Addr} {c : Cell} (x1 : Ext h₀ h₁) (hn : h₀.get? a = none) (e : σ' = σ.put a c) : Stp env σ σ' h₀ h₁ :=
  ⟨fun b o e _ _ _ => x1 b o e, fun b o e => ⟨o, x1 b o e⟩, fun b c h => by
    subst e
    by_cases hb : b = a
    · subst hb; exact .inr hn
    · rw [Sig.put_ne _ _ hb] at h; exact .inl ⟨c, h⟩⟩
theorem X1.emptyT {x : Str} {px dp pos : Pos} {Q : AF → Rho → Sig → Prop} (H : ∀ a, σ a = none → a ≠ env.locals → Q .nxt ((x, .val (.ref a)) :: ρ) (σ.put a (.dT 0 (fun _ => none)))) (ho : stOk env x = true := by rfl)
    (hs : swapsWith (.Dict [] [] dp) (some (.Name x px)) pos.line env = pure false := by rfl) : X1 X A g env ρ σ (.Assign [.Name x px] (.Dict [] [] dp) pos) Q := fun s S => by
  refine wpAny_Assign_Name ?_ hs
  rw [eval_Dict_empty]
  refine wpAny_bind (wpAny_standAt (wpAny_newObj_type ?_))
  have hn : s.heap.get? s.heap.objs.size = none := Heap.get?_none_of_le (Nat.le_refl _)
  obtain ⟨hσ, hL, _⟩ := S.fresh hn
  have S1 : SX X g env ρ (σ.put s.heap.objs.size (.dT 0 (fun _ => none))) (s.heap.push { cls := .type "dict", data := .dict #[] }) :=
    S.own_new (Ext.push _ _) hn ⟨newA S, [], Heap.DictOfH.new _, Nat.le_refl _, fun k => by simp [OV, atKey]⟩
  exact storeVar (s := { s with heap := s.heap.push { cls := .type "dict", data := .dict #[] } }) S1 (d := .val (.ref s.heap.objs.size)) (by simp [V]) ho fun h2 tk2 S2 p2 => .mk (h' := h2) (tk := tk2) .nxt _ _ S2 ((stpNew (Ext.push _ _) hn rfl).trans p2) rfl (H _ hσ hL)
theorem X1.emptyI {x : Str} {px dp pos : Pos} {Q : AF → Rho → Sig → Prop} (H : ∀ a, σ a = none → a ≠ env.locals → Q .nxt ((x, .val (.ref a)) :: ρ) (σ.put a (.dI 0 (fun _ => none)))) (ho : stOk env x = true := by rfl)
    (hs : swapsWith (.Dict [] [] dp) (some (.Name x px)) pos.line env = pure false := by rfl) : X1 X A g env ρ σ (.Assign [.Name x px] (.Dict [] [] dp) pos) Q := fun s S => by
  refine wpAny_Assign_Name ?_ hs
  rw [eval_Dict_empty]
  refine wpAny_bind (wpAny_standAt (wpAny_newObj_type ?_))
  have hn : s.heap.get? s.heap.objs.size = none := Heap.get?_none_of_le (Nat.le_refl _)
  obtain ⟨hσ, hL, _⟩ := S.fresh hn
  have S1 : SX X g env ρ (σ.put s.heap.objs.size (.dI 0 (fun _ => none))) (s.heap.push { cls := .type "dict", data := .dict #[] }) :=
    S.own_new (Ext.push _ _) hn ⟨newA S, [], Heap.DictOf.new _, Nat.le_refl _, fun k => by simp [OV, valueAt]⟩
  exact storeVar (s := { s with heap := s.heap.push { cls := .type "dict", data := .dict #[] } }) S1 (d := .val (.ref s.heap.objs.size)) (by simp [V]) ho fun h2 tk2 S2 p2 => .mk (h' := h2) (tk := tk2) .nxt _ _ S2 ((stpNew (Ext.push _ _) hn rfl).trans p2) rfl (H _ hσ hL)
/-- {k: v}, a tuple of ints for the key -/
theorem X1.oneT {n : Nat} (hA : Rm n A) {x : Str} {px dp pos : Pos} {ke ve : Expr} {Q : AF → Rho → Sig → Prop}
    (H : Ev X A g env ρ σ ke (fun r => ∃ k, r = .d (.tup (k.map .int)) ∧ Ev X A g env ρ σ ve (fun r2 => ∃ d, r2 = .d d ∧ ∀ a, σ a = none → a ≠ env.locals → Q .nxt ((x, .val (.ref a)) :: ρ) (σ.put a (.dT 1 (Mine.setT (fun _ => none) k d))))))
    (ho : stOk env x = true := by rfl)
    (hs : swapsWith (.Dict [some ke] [ve] dp) (some (.Name x px)) pos.line env = pure false := by rfl) : X1 X A g env ρ σ (.Assign [.Name x px] (.Dict [some ke] [ve] dp) pos) Q := fun s S => by
  refine wpAny_Assign_Name (wpAny_Dict_any rfl rfl (by simp) (by simp) ?_) hs
  have hn : s.heap.get? s.heap.objs.size = none := Heap.get?_none_of_le (Nat.le_refl _)
  obtain ⟨hσ, hL, _⟩ := S.fresh hn
  have x0 := Ext.push s.heap { cls := .type "dict", data := .dict #[] }
  have S0 := S.ext x0
  show wpAny _ A (evalPairs [(eval ke env, do let x ← eval ve env; standAt dp; pure x)]) _ _ _
  refine evalPairs_cons (use (H _ S0) S0 fun v r h1 tk1 S1 x1 y1 ⟨k, e1, H2⟩ => ?_)
  subst e1
  refine wpAny_bind (use (H2 _ S1) S1 fun u r2 h2 tk2 S2 x2 y2 ⟨d, e2, q⟩ => wpAny_bind (wpAny_standAt (wpAny_pure (evalPairs_nil ?_))))
  subst e2
  obtain ⟨b, rfl, hb⟩ := key_of_v (prog := X.prog) (w := X.w) (V.mono x2.tg y1)
  have hm0 : (s.heap.push { cls := .type "dict", data := .dict #[] }).DictOfH (tk X.prog X.w) s.heap.objs.size [] := Heap.DictOfH.new _
  have hm : h2.DictOfH (tk X.prog X.w) s.heap.objs.size [] := DictOfH.ofGet hm0 (x1.trans x2).tg (fun o e => (x1.trans x2) _ o e)
  have hu : A.units < cLine := by have := hA.units; omega
  unfold storeAll
  rw [List.forIn_cons]
  refine wpAny_bind (wpAny_bind (wpAny_dictSet_heap (knd := tk X.prog X.w) (s := { s with heap := h2, toks := tk2 }) hu hb hm (fun h' hm' hs' => wpAny_pure ?_) (by simp)))
  dsimp only
  rw [List.forIn_nil]
  refine wpAny_pure ?_
  have tg : TG h2 h' := TG.sameBut hs' (by
    rintro items ⟨o', ho', hc', _⟩
    obtain ⟨o, es, ep, hoo, hex, _⟩ := hm
    rw [hoo] at ho'; cases ho'; rw [hex.1] at hc'; simp at hc')
  have xA : Ext s.heap h' := fun c o e => hs'.extBut c o (pushed_ne e) ((x0.trans (x1.trans x2)) c o e)
  have hc : Cell.In X.prog X.w h' s.heap.objs.size (.dT 1 (Mine.setT (fun _ => none) k d)) := by
    refine ⟨newA S, _, hm', storedH_length _ _ _ _, fun k' => ?_⟩
    rw [atKey_stored]
    unfold Mine.setT
    split
    · exact ⟨_, rfl, V.mono tg y2⟩
    · simp [OV, atKey]
  have S3 := S.own_new xA hn hc
  exact storeVar (s := { s with heap := h', toks := tk2 + (k.length + 1) }) S3 (d := .val (.ref s.heap.objs.size)) (by simp [V]) ho fun h4 tk4 S4 p4 => .mk (h' := h4) (tk := tk4) .nxt _ _ S4 ((stpNew xA hn rfl).trans p4) rfl (q _ hσ hL)

/-! da.get(k, e) -/
theorem Ev.getI {o e f : Expr} {apos pos : Pos} {Q : Res → Prop}
    (H : Ev X A g env ρ σ o (fun r => ∃ a m F, r = .d (.val (.ref a)) ∧ σ a = some (.dI m F) ∧ Ev X A g env ρ σ e (fun r2 => ∃ k, r2 = .d (.int k) ∧ Ev X A g env ρ σ f (fun r3 => ∃ d, r3 = .d d ∧ Q (.d ((F k).getD d))))))
    (hbase : attributeBase o "get" env (eval o env) = eval o env := by rfl) (hline : (apos.endLine == pos.line) = true := by rfl)
    (htrees : backTo pos (starEach [e, f] env) = [(false, eval e env), (false, eval f env)] := by rfl) :
    Ev X A g env ρ σ (.Call (.Attribute o "get" apos) [e, f] [] pos) Q := fun s S => by
  refine wpAny_Call_method2_late hbase hline htrees (use (H s S) S fun v r h1 tk1 S1 x1 y1 ⟨a, m, F, e1, hσ, H2⟩ => ?_)
  subst e1
  simp only [VR, V] at y1
  subst y1
  obtain ⟨hsm, kvs, hm, _, _⟩ := (S1.own a _ hσ).1
  have hm1 : Heap.DictOf (intKind X.prog X.w) (Shared.heap { s with heap := h1, toks := tk1 }) a kvs := hm
  refine ⟨"dict", "dict.get", PySem.F.plainAttrs_dict, PySem.F.slot_dict_get, PySem.F.type_dict_get, hm1.typeIs, hm1.mapOf.noDict, ?_⟩
  refine wpAny_dict_get2 (knd := intKind X.prog X.w) hsm (use (H2 _ S1) S1 fun u r2 h2 tk2 S2 x2 y2 ⟨k, e2, H3⟩ => use (H3 _ S2) S2 fun w r3 h3 tk3 S3 x3 y3 ⟨d, e3, q⟩ => ?_)
  subst e2 e3
  simp only [VR, V] at y2
  obtain ⟨t, rfl⟩ := y2
  obtain ⟨_, kvs3, hm3, _, hf3⟩ := (S3.own a _ hσ).1
  refine ⟨k, _, intKind_is _ _ k t, hm3.mapOf, .mk (.d _) (x1.trans (x2.trans x3)) ?_ q⟩
  have hk := hf3 k
  cases hF : F k with
  | none => rw [hF] at hk; simp only [OV] at hk; rw [hk]; exact y3
  | some dd => rw [hF] at hk; obtain ⟨v, e, hv⟩ := hk; rw [e]; exact hv
theorem Ev.getT {n : Nat} (hA : Rm n A) {o e f : Expr} {apos pos : Pos} {Q : Res → Prop}
    (H : Ev X A g env ρ σ o (fun r => ∃ a m F, r = .d (.val (.ref a)) ∧ σ a = some (.dT m F) ∧ Ev X A g env ρ σ e (fun r2 => ∃ k, r2 = .d (.tup (k.map .int)) ∧ Ev X A g env ρ σ f (fun r3 => ∃ d, r3 = .d d ∧ Q (.d ((F k).getD d))))))
    (hbase : attributeBase o "get" env (eval o env) = eval o env := by rfl) (hline : (apos.endLine == pos.line) = true := by rfl)
    (htrees : backTo pos (starEach [e, f] env) = [(false, eval e env), (false, eval f env)] := by rfl) :
    Ev X A g env ρ σ (.Call (.Attribute o "get" apos) [e, f] [] pos) Q := fun s S => by
  refine wpAny_Call_method2_late hbase hline htrees (use (H s S) S fun v r h1 tk1 S1 x1 y1 ⟨a, m, F, e1, hσ, H2⟩ => ?_)
  subst e1
  simp only [VR, V] at y1
  subst y1
  obtain ⟨hsm, kvs, hm, _, _⟩ := (S1.own a _ hσ).1
  have hm1 : Heap.DictOfH (tk X.prog X.w) (Shared.heap { s with heap := h1, toks := tk1 }) a kvs := hm
  have hu : A.units + 1 < cLine := by have := hA.units; omega
  refine ⟨"dict", "dict.get", PySem.F.plainAttrs_dict, PySem.F.slot_dict_get, PySem.F.type_dict_get, hm1.typeIs, fun b hb => ?_, ?_⟩
  · cases hb; obtain ⟨oo, _, _, ho, hex, _⟩ := hm; exact ⟨oo, ho, hex.2.1⟩
  refine wpAny_dict_get2_heap (knd := tk X.prog X.w) (tupleKind_room_in1 hu) hsm (use (H2 _ S1) S1 fun u r2 h2 tk2 S2 x2 y2 ⟨k, e2, H3⟩ => use (H3 _ S2) S2 fun w r3 h3 tk3 S3 x3 y3 ⟨d, e3, q⟩ => ?_)
  subst e2 e3
  obtain ⟨b, rfl, hb⟩ := key_of_v (prog := X.prog) (w := X.w) (V.mono x3.tg y2)
  obtain ⟨_, xs3, hm3, _, hf3⟩ := (S3.own a _ hσ).1
  refine ⟨b, k, xs3, rfl, hb, hm3, .mk (.d _) (x1.trans (x2.trans x3)) ?_ q⟩
  have hk := hf3 k
  cases hF : F k with
  | none => rw [hF] at hk; simp only [OV] at hk; rw [hk]; exact y3
  | some dd => rw [hF] at hk; obtain ⟨v, e, hv⟩ := hk; rw [e]; exact hv

/-! several names at once -/
theorem assignNames {P : Unit → Shared → Prop} : ∀ (names : List (Str × Pos)) (ds : List D) (vs : List Value) (ρ : Rho) (s : Shared), (∀ x ∈ names, stOk env x.1 = true) → Vs s.heap ds vs → names.length = ds.length → SX X g env ρ σ s.heap →
    (∀ h' tk, SX X g env (bindAll names ds ρ) σ h' → Stp env σ σ s.heap h' → P () { s with heap := h', toks := tk }) →
    wpAny (model X.prog X.w) A (assignInOrder (names.map fun n => assign (.Name n.1 n.2) env) vs) P E s
  | [], [], vs, ρ, s, _, hv, _, S, k => by
    simp only [Vs] at hv; subst hv
    exact assignInOrder_nil (k s.heap s.toks S .refl)
  | x :: xs, d :: ds, vs, ρ, s, ho, hv, hl, S, k => by
    simp only [Vs] at hv
    obtain ⟨v, ws, rfl, h1, h2⟩ := hv
    refine assignInOrder_cons (wpAny_assign_Name (storeVar S h1 (ho x List.mem_cons_self) fun h' tk S' P' => ?_))
    exact assignNames xs ds ws _ { s with heap := h', toks := tk } (fun y hy => ho y (List.mem_cons_of_mem _ hy)) (h2.mono (Stp.tg S P')) (by simpa using hl) S' fun h'' tk' S'' P'' => k h'' tk' S'' (P'.trans P'')
  | [], _ :: _, _, _, _, _, _, hl, _, _ => by simp at hl
  | _ :: _, [], _, _, _, _, _, hl, _, _ => by simp at hl
theorem X1.assignT {n : Nat} (hA : Rm n A) {elts : List Expr} {k : Nat} {tpos pos : Pos} {value : Expr} {Q : AF → Rho → Sig → Prop} (names : List (Str × Pos))
    (H : Ev X A g env ρ σ value (fun r => ∃ ds, (r = .d (.tup ds) ∨ r = .lst ds ∨ r = .new ds) ∧ ds.length = names.length ∧ Q .nxt (bindAll names ds ρ) σ))
    (he : assignEach elts env = names.map (fun n => (false, PySem.assign (.Name n.1 n.2) env)) := by rfl)
    (ho : ∀ x ∈ names, stOk env x.1 = true := by decide)
    (hs : swapsWithSole [.Tuple elts k tpos] value pos.line env = pure false := by rfl)
    (hw : swappedStores [.Tuple elts k tpos] value env = pure none := by rfl) :
    X1 X A g env ρ σ (.Assign [.Tuple elts k tpos] value pos) Q := fun s S => by
  refine Assign_Tuple (use (H s S) S fun v r h1 tk1 S1 x1 y1 ⟨ds, hr, hl, q⟩ => ?_) hs hw
  have hstar : (names.map (fun n => (false, PySem.assign (.Name n.1 n.2) env))).findIdx? (·.1) = none := by
    rw [List.findIdx?_eq_none_iff]
    intro x hx
    obtain ⟨n, _, rfl⟩ := List.mem_map.mp hx
    rfl
  have hmap : (names.map (fun n => (false, PySem.assign (.Name n.1 n.2) env))).map (·.2) = names.map fun n => PySem.assign (.Name n.1 n.2) env := by simp
  have key : ∀ items : Array Value, Vs h1 ds items.toList → wpAny (model X.prog X.w) A (unpackItems v items.size none) (fun its s' => its = items.toList ∧ ∃ h', s' = { s with heap := h', toks := tk1 } ∧ Ext h1 h') NoE { s with heap := h1, toks := tk1 } →
      wpAny (model X.prog X.w) A (PySem.assign (.Tuple elts k tpos) env v) (fun _ => PX X g env σ s Q .next) NoE { s with heap := h1, toks := tk1 } := fun items hv hu => by
    rw [assign_Tuple, he]
    refine wpAny_bind (wpAny_standAt ?_)
    unfold unpack
    rw [hstar, hmap, List.length_map]
    have hz : names.length = items.size := by rw [← hl, hv.length]; simp
    rw [hz]
    refine wpAny_bind (wpAny_holding (wpAny_mono hu (fun its s' ⟨e, h', e', x'⟩ => ?_) fun _ _ f => f))
    subst e e'
    refine assignNames (X := X) (g := g) (σ := σ) names ds items.toList ρ { s with heap := h', toks := tk1 } ho (hv.mono x'.tg) hl.symm (S1.ext x') fun h2 tk2 S2 P2 => ?_
    exact .mk (h' := h2) (tk := tk2) .nxt _ _ S2 ((Stp.of_ext (x1.trans x')).trans P2) rfl q
  have ext0 : ∀ h' : Heap, Heap.ExtBut h1.objs.size h1 h' → Ext h1 h' := fun h' he b o e => he b o (pushed_ne e) e
  have lcase : (∃ a, v = .ref a ∧ LI h1 a ds) → wpAny (model X.prog X.w) A (PySem.assign (.Tuple elts k tpos) env v) (fun _ => PX X g env σ s Q .next) NoE { s with heap := h1, toks := tk1 } := by
    rintro ⟨a, rfl, items, hi, hv⟩
    refine key items hv ?_
    have hi' : Heap.IsList (Shared.heap { s with heap := h1, toks := tk1 }) a items := hi
    exact kun_itemsOf hA.handled hi' fun h' he => ⟨rfl, h', rfl, ext0 h' he⟩
  rcases hr with rfl | rfl | rfl
  · simp only [VR, V] at y1
    obtain ⟨a, items, rfl, hi, hv⟩ := y1
    refine key items hv ?_
    have hi' : IsTup (Shared.heap { s with heap := h1, toks := tk1 }) a items := hi
    exact unpackItems_tuple hA.handled hi' fun h' he => ⟨rfl, h', rfl, ext0 h' he⟩
  · exact lcase y1
  · obtain ⟨a, e, _, p⟩ := y1; exact lcase ⟨a, e, p.li⟩

/-! while -/
theorem X1.while {test : Expr} {body : List Stmt} {pos : Pos} {Q : AF → Rho → Sig → Prop} (I : Nat → Rho → Sig → Prop) (n : Nat) (h0 : I n ρ σ)
    (turn : ∀ n ρ' σ', I n ρ' σ' → Tr X A g env ρ' σ' test (fun b => if b then Xs X A g env ρ' σ' body (fun f ρ'' σ'' => match f with
      | .nxt => ∃ m, m < n ∧ I m ρ'' σ'' | .cont => ∃ m, m < n ∧ I m ρ'' σ'' | .brk => Q .nxt ρ'' σ'' | .ret r => Q (.ret r) ρ'' σ'') else Q .nxt ρ' σ')) : X1 X A g env ρ σ (.While test body [] pos) Q := fun s S => by
  refine wpAny_While (codeAny_whileLoop (R := fun r s' => match r with | .ok f => PX X g env σ s Q f s' | .error e => cameBackBy (model X.prog X.w) A env NoE e s')
    (fun n s' => ∃ ρ' σ' h' tk, s' = { s with heap := h', toks := tk } ∧ SX X g env ρ' σ' h' ∧ Stp env σ σ' s.heap h' ∧ I n ρ' σ') ?_ n ⟨ρ, σ, s.heap, s.toks, rfl, S, .refl, h0⟩)
  rintro n s' ⟨ρ', σ', h', tk, rfl, S', P', hI⟩
  refine useT (turn n ρ' σ' hI _ S') S' fun b h1 tk1 S1 x1 q => ?_
  have P1 := P'.trans (.of_ext x1)
  cases b with
  | false => exact wpAny_execs_nil (.mk (h' := h1) (tk := tk1) .nxt _ _ S1 P1 rfl q)
  | true =>
    refine wpAny_mono (q _ S1) ?_ fun _ _ f => f.elim
    rintro f s₄ ⟨af, ρ₄, σ₄, h₄, tk₄, rfl, S₄, P₄, hf, q⟩
    have P4' := P1.trans P₄
    cases af with
    | nxt => simp only [FR] at hf; subst hf; obtain ⟨m, hm, hI⟩ := q; exact ⟨m, hm, _, _, h₄, tk₄, rfl, S₄, P4', hI⟩
    | cont => simp only [FR] at hf; subst hf; obtain ⟨m, hm, hI⟩ := q; exact ⟨m, hm, _, _, h₄, tk₄, rfl, S₄, P4', hI⟩
    | brk => simp only [FR] at hf; subst hf; exact .mk (h' := h₄) (tk := tk₄) .nxt _ _ S₄ P4' rfl q
    | ret r => obtain ⟨u, rfl, hu⟩ := hf; exact .mk (h' := h₄) (tk := tk₄) (.ret r) _ _ S₄ P4' ⟨u, rfl, hu⟩ q
end
end Mine

namespace Mine
open PySem PySem.W PySem.Calls PyProof.Rows

theorem bindL_notmem {kf : Str → Option NameKind} : ∀ {binds : List (Str × Value)} {m : Str → Option Value} {x : Str}, x ∉ binds.map (·.1) → bindL kf binds m x = m x
  | [], m, x, _ => rfl
  | (n, v) :: r, m, x, h => by
    simp only [List.map_cons, List.mem_cons, not_or] at h
    rw [bindL, bindL_notmem h.2]
    split
    · simp [h.1]
    · rfl
theorem bindL_mem {kf : Str → Option NameKind} : ∀ {binds : List (Str × Value)} {m : Str → Option Value} {x : Str} {v : Value}, (binds.map (·.1)).Nodup → (x, v) ∈ binds → kf x = some .local → bindL kf binds m x = some v
  | (n, u) :: r, m, x, v, hn, hm, hk => by
    rw [List.map_cons, List.nodup_cons] at hn
    rw [bindL]
    rcases List.mem_cons.mp hm with e | hm
    · cases e; rw [bindL_notmem hn.1, if_pos hk]; simp
    · exact bindL_mem hn.2 hm hk
theorem bindC_notmem {kf : Str → Option NameKind} : ∀ {binds : List (Str × Value)} {m : Str → Option Value} {x : Str}, x ∉ binds.map (·.1) → bindC kf binds m x = m x
  | [], m, x, _ => rfl
  | (n, v) :: r, m, x, h => by
    simp only [List.map_cons, List.mem_cons, not_or] at h
    rw [bindC, bindC_notmem h.2]
    split
    · rfl
    · simp [h.1]
theorem bindC_mem {kf : Str → Option NameKind} : ∀ {binds : List (Str × Value)} {m : Str → Option Value} {x : Str} {v : Value}, (binds.map (·.1)).Nodup → (x, v) ∈ binds → kf x ≠ some .local → bindC kf binds m x = some v
  | (n, u) :: r, m, x, v, hn, hm, hk => by
    rw [List.map_cons, List.nodup_cons] at hn
    rw [bindC]
    rcases List.mem_cons.mp hm with e | hm
    · cases e; rw [bindC_notmem hn.1, if_neg hk]; simp
    · exact bindC_mem hn.2 hm hk

/-- arguments as the callee's names hold them -/
def ArgD (g : Heap) : Res → D → Prop
  | .d x, d => d = x
  | .lst xs, d | .new xs, d => ∃ a, d = .val (.ref a) ∧ LI g a xs
def ArgsD (g : Heap) : List Res → List D → Prop
  | [], ds => ds = []
  | r :: rs, ds => ∃ d ds', ds = d :: ds' ∧ ArgD g r d ∧ ArgsD g rs ds'
theorem argD_of {g : Heap} : ∀ {r : Res} {v : Value}, AR g r v → ∃ d, ArgD g r d ∧ V g d v
  | .d x, v, h => ⟨x, rfl, h⟩
  | .lst xs, v, ⟨a, e, l⟩ => ⟨.val (.ref a), ⟨a, rfl, l⟩, by simp [V, e]⟩
  | .new xs, v, ⟨a, e, l⟩ => ⟨.val (.ref a), ⟨a, rfl, l⟩, by simp [V, e]⟩
theorem argsD_of {g : Heap} : ∀ {rs : List Res} {vs : List Value}, ARs g rs vs → ∃ ds, ArgsD g rs ds ∧ Vs g ds vs
  | [], vs, h => ⟨[], rfl, by simp only [ARs] at h; simp [Vs, h]⟩
  | r :: rs, vs, ⟨v, ws, e, h1, h2⟩ => by
    obtain ⟨d, a1, a2⟩ := argD_of h1
    obtain ⟨ds, b1, b2⟩ := argsD_of h2
    subst e
    exact ⟨d :: ds, ⟨d, ds, rfl, a1, b1⟩, Vs.cons a2 b2⟩
theorem ARs.length {g : Heap} : ∀ {rs : List Res} {vs : List Value}, ARs g rs vs → vs.length = rs.length
  | [], vs, h => by simp only [ARs] at h; simp [h]
  | r :: rs, vs, ⟨v, ws, e, h1, h2⟩ => by subst e; simp [h2.length]

theorem zip_lookup {g : Heap} : ∀ {xs : List Str} {ds : List D} {vs : List Value} {x : Str} {d : D}, Vs g ds vs → (xs.zip ds).lookup x = some d → ∃ v, (x, v) ∈ xs.zip vs ∧ V g d v
  | [], ds, vs, x, d, _, h => by simp at h
  | y :: ys, [], vs, x, d, _, h => by simp at h
  | y :: ys, e :: es, vs, x, d, hv, h => by
    simp only [Vs] at hv
    obtain ⟨v, ws, rfl, h1, h2⟩ := hv
    rw [List.zip_cons_cons, List.lookup_cons] at h
    cases hb : x == y with
    | true => rw [hb] at h; cases h; rw [beq_iff_eq.mp hb]; exact ⟨v, by simp, h1⟩
    | false => rw [hb] at h; obtain ⟨u, p, q⟩ := zip_lookup h2 h; exact ⟨u, by simp [p], q⟩

abbrev envF (fd : FuncData) (L f : Addr) : Env := callEnvC fd L f

section
variable {X : Cx} {A : Around} {g : Heap} {env : Env} {ρ : Rho} {σ : Sig} {E : Value → Shared → Prop}

theorem Rm.deeper {n : Nat} {env : Env} (h : Rm (n + 1) A) : Rm n (A.deeper env) := by
  obtain ⟨h1, h2, h3⟩ := h
  refine ⟨h1, ?_, ?_⟩
  · show A.depth + 1 + n < recursionLimit; omega
  · show A.units + 3 + 8 * n + 40 < cLine; omega
theorem Rm.mono {n m : Nat} (h : Rm n A) (hm : m ≤ n) : Rm m A := ⟨h.handled, by have := h.depth; omega, by have := h.units; omega⟩

/-- a frame just made -/
theorem St.entry {fd : FuncData} {f : Addr} {xs : List Str} {ds : List D} {vs : List Value} {s s₁ : Shared} (hg : GX X s.heap) (hv : Vs s.heap ds vs) (hl : xs.length = vs.length)
    (hglob : fd.globals = mainGlobals) (hblt : fd.builtins = builtinsNs) (hk : fd.scope.kind = .function) (hnd : xs.Nodup)
    (x : InCallC s (envF fd s.heap.objs.size f).locals (bindL (envF fd s.heap.objs.size f).kindOf (xs.zip vs) fun _ => none) (envF fd s.heap.objs.size f).cells (bindC (envF fd s.heap.objs.size f).kindOf (xs.zip vs) fun _ => none) s₁)
    (hcell : ∀ x ∈ xs, fd.scope.names.lookup x = some .local ∨ (fd.scope.names.lookup x = some .cell)) :
    SX X s.heap (envF fd s.heap.objs.size f) (xs.zip ds) (fun _ => none) s₁.heap ∧ Ext s.heap s₁.heap ∧ ∃ h tk, s₁ = { s with heap := h, toks := tk } := by
  have hmap : (xs.zip vs).map (·.1) = xs := by rw [List.map_fst_zip (by omega)]
  have hnd' : ((xs.zip vs).map (·.1)).Nodup := by rw [hmap]; exact hnd
  refine ⟨{
    glob := hg
    keep := x.toInCall.keep
    kind := hk
    globals := hglob
    builtins := hblt
    out := Heap.get?_none_of_le (Nat.le_refl _)
    ns := ⟨_, x.toInCall.ns, fun y d h1 h2 => by
      obtain ⟨v, p, q⟩ := zip_lookup hv h1
      exact ⟨v, bindL_mem hnd' p h2, q.mono (Ext.tg x.toInCall.keep)⟩⟩
    cel := fun y d h1 h2 => by
      obtain ⟨v, p, q⟩ := zip_lookup hv h1
      have hy : y ∈ xs := by rw [← hmap]; exact List.mem_map.mpr ⟨_, p, rfl⟩
      have hnl : (envF fd s.heap.objs.size f).kindOf y ≠ some .local := by rcases h2 with h2 | h2 <;> rw [h2] <;> simp
      have hc : fd.scope.names.lookup y = some .cell := by
        rcases hcell y hy with h | h
        · exact absurd h hnl
        · exact h
      obtain ⟨c, hc'⟩ := Option.isSome_iff_exists.mp (cellsFrom_some fd.scope.names (s.heap.objs.size + 1) [] (.inl hc))
      have := x.cell y c hc'
      rw [bindC_mem hnd' p hnl] at this
      exact ⟨c, v, hc', this, q.mono (Ext.tg x.toInCall.keep)⟩
    cok := fun y c h1 => ⟨Heap.get?_none_of_le (Nat.le_of_lt (x.above y c (mem_of_lookup h1))), _, x.cell y c h1⟩
    apart := fun y z c h1 h2 => name_of_addr x.apart (mem_of_lookup h1) (mem_of_lookup h2)
    own := fun a c h => by cases h }, x.toInCall.keep, ?_⟩
  obtain ⟨h, tk, e⟩ := x.toInCall.same
  exact ⟨h, tk, e⟩

def RetQ (Q : Res → Prop) : AF → Rho → Sig → Prop := fun f _ _ => match f with | .ret r => Q r | .nxt => Q (.d (.val .none)) | _ => False

theorem Fn.enter {n : Nat} {f : Addr} {o : Obj} {fd : FuncData} {body : List Stmt} {rs : List Res} {Q : Res → Prop} (xs : List Str)
    (ho : X.K.lookup f = some o) (hd : o.data = .func fd) (hbody : fd.body = .stmts body) (hcd : codeIn X.K fd.code fd.qualname = true)
    (hbind : ∀ vs : List Value, vs.length = rs.length → bindArgs fd ⟨vs, []⟩ = pure (xs.zip vs)) (hl : xs.length = rs.length)
    (hkind : (xs.all fun y => fd.scope.names.lookup y == some .local || fd.scope.names.lookup y == some .cell) = true) (hnd : xs.Nodup)
    (hglob : fd.globals = mainGlobals) (hblt : fd.builtins = builtinsNs) (hclo : fd.closure = [])
    (hco : fd.scope.isCoroutine = false) (hgen : fd.scope.isGenerator = false) (hk : fd.scope.kind = .function)
    (H : ∀ (A : Around) (g : Heap) (L : Addr) (ds : List D), Rm n A → GX X g → ArgsD g rs ds → Xs X A g (envF fd L f) (xs.zip ds) (fun _ => none) body (RetQ Q)) : Fn X (n + 1) (.ref f) rs Q := fun A s vs hA hg ha => by
  have hlen := ha.length
  obtain ⟨ds, had, hv⟩ := argsD_of ha
  have hkind' : ∀ x ∈ xs, fd.scope.names.lookup x = some .local ∨ fd.scope.names.lookup x = some .cell := fun x hx => by
    have := List.all_eq_true.mp hkind x hx
    simpa using this
  have hmap : (xs.zip vs).map (·.1) = xs := by rw [List.map_fst_zip (by omega)]
  refine wpAny_call (codeAny_call_cells (binds := xs.zip vs) (by have := hA.depth; omega) (hg.k _ _ ho) hd hg.nolimit (codeRec_of hg.k hcd) hbody (hbind vs hlen) hclo (fun x hx => ?_) (fun s₁ x => ?_) hco hgen hk)
  · have hx' : x.1 ∈ xs := by rw [← hmap]; exact List.mem_map.mpr ⟨x, hx, rfl⟩
    rcases hkind' _ hx' with h | h
    · exact .inl h
    · exact .inr ⟨h, cellsFrom_some _ _ _ (.inl h)⟩
  · obtain ⟨S, x1, h1, tk1, rfl⟩ := St.entry hg hv (by omega) hglob hblt hk hnd x hkind'
    refine wpAny_mono (H _ _ _ ds hA.deeper hg had _ S) ?_ fun _ _ f => f.elim
    rintro fl s₂ ⟨af, ρ', σ', h', tk', rfl, S', P', hf, q⟩
    have xe : Ext s.heap h' := S'.keep
    cases af with
    | nxt => simp only [FR] at hf; subst hf; exact .mk (.d (.val .none)) xe (by simp [VR, V]) q
    | brk => exact q.elim
    | cont => exact q.elim
    | ret r => obtain ⟨u, rfl, hu⟩ := hf; exact .mk r xe hu q
end
end Mine

namespace Mine
open PySem PySem.W PySem.Calls PyProof.Rows

def compE (scope : Scope) (cl : List (Str × Addr)) (C : Addr) (env : Env) : Env :=
  { scope := relabel scope env, locals := C, globals := env.globals, cells := cellsFrom (C + 1) scope.names cl, qual := env.qual, func := none, code := env.code, frame := env.frame, builtins := env.builtins }

theorem cf_lookup : ∀ (names : List (Str × NameKind)) (h : Heap) (acc : List (Str × Addr)) (x : Str) (c : Addr), (cellsFrom h.objs.size names acc).lookup x = some c → acc.lookup x = some c ∨ (h.get? c = none ∧ (pushCells h names).IsCell c none)
  | [], h, acc, x, c, e => .inl e
  | (nm, kd) :: r, h, acc, x, c, e => by
    unfold cellsFrom at e
    unfold pushCells
    by_cases hk : (kd == NameKind.cell) = true
    · rw [if_pos hk] at e ⊢
      have e' : (cellsFrom (h.push { cls := .type "cell", data := .cell none }).objs.size r ((nm, h.objs.size) :: acc)).lookup x = some c := by rw [Heap.size_push]; exact e
      rcases cf_lookup r _ _ x c e' with q | ⟨q1, q2⟩
      · rw [List.lookup_cons] at q
        cases hb : x == nm with
        | true =>
          rw [hb] at q; cases q
          exact .inr ⟨Heap.get?_none_of_le (Nat.le_refl _), ⟨_, pushCells_keeps r _ _ _ (Heap.get?_push_size _ rfl), rfl⟩⟩
        | false => rw [hb] at q; exact .inl q
      · exact .inr ⟨(Ext.push _ _).none q1, q2⟩
    · rw [if_neg hk] at e ⊢
      exact cf_lookup r h acc x c e
theorem cf_apart : ∀ (names : List (Str × NameKind)) (h : Heap) (acc : List (Str × Addr)), (∀ x c, acc.lookup x = some c → ∃ o, h.get? c = some o) → (∀ x y c, acc.lookup x = some c → acc.lookup y = some c → x = y) →
    ∀ x y c, (cellsFrom h.objs.size names acc).lookup x = some c → (cellsFrom h.objs.size names acc).lookup y = some c → x = y
  | [], h, acc, _, ha, x, y, c, e1, e2 => ha x y c e1 e2
  | (nm, kd) :: r, h, acc, hex, ha, x, y, c, e1, e2 => by
    unfold cellsFrom at e1 e2
    by_cases hk : (kd == NameKind.cell) = true
    · rw [if_pos hk] at e1 e2
      have hs : (h.push { cls := .type "cell", data := .cell none }).objs.size = h.objs.size + 1 := Heap.size_push ..
      rw [← hs] at e1 e2
      refine cf_apart r _ _ ?_ ?_ x y c e1 e2
      · intro x c e
        rw [List.lookup_cons] at e
        cases hb : x == nm with
        | true => rw [hb] at e; cases e; exact ⟨_, Heap.get?_push_size _ rfl⟩
        | false => rw [hb] at e; obtain ⟨o, ho⟩ := hex x c e; exact ⟨o, Heap.get?_push_of_some _ ho⟩
      · intro x y c e1 e2
        rw [List.lookup_cons] at e1 e2
        cases hb : x == nm with
        | true =>
          rw [hb] at e1; cases e1
          cases hb2 : y == nm with
          | true => rw [beq_iff_eq.mp hb, beq_iff_eq.mp hb2]
          | false =>
            rw [hb2] at e2
            obtain ⟨o, ho⟩ := hex y _ e2
            exact absurd rfl (pushed_ne ho)
        | false =>
          rw [hb] at e1
          cases hb2 : y == nm with
          | true =>
            rw [hb2] at e2; cases e2
            obtain ⟨o, ho⟩ := hex x _ e1
            exact absurd rfl (pushed_ne ho)
          | false => rw [hb2] at e2; exact ha x y c e1 e2
    · rw [if_neg hk] at e1 e2
      exact cf_apart r h acc hex ha x y c e1 e2

/-- what a comprehension has gathered -/
def AccR (h₃ h : Heap) : List Res → List Value → Prop
  | [], vs => vs = []
  | .d x :: rs, vs => ∃ v ws, vs = v :: ws ∧ V h x v ∧ AccR h₃ h rs ws
  | .new xs :: rs, vs => ∃ a ws, vs = .ref a :: ws ∧ h₃.get? a = none ∧ PL h a xs ∧ (.ref a : Value) ∉ ws ∧ AccR h₃ h rs ws
  | .lst _ :: _, _ => False
theorem AccR.frame {h₃ h h' : Heap} (t : TG h h') (k : ∀ b o, h₃.get? b = none → h.get? b = some o → h'.get? b = some o) : ∀ {rs : List Res} {vs : List Value}, AccR h₃ h rs vs → AccR h₃ h' rs vs
  | [], vs, e => e
  | .d x :: rs, vs, ⟨v, ws, e, p, q⟩ => ⟨v, ws, e, p.mono t, q.frame t k⟩
  | .new xs :: rs, vs, ⟨a, ws, e, p, ⟨items, ⟨n, ho⟩, hv⟩, r, q⟩ => ⟨a, ws, e, p, ⟨items, ⟨n, k _ _ p ho⟩, hv.mono t⟩, r, q.frame t k⟩
  | .lst _ :: _, _, e => e.elim
theorem AccR.in_heap {h₃ h : Heap} : ∀ {rs : List Res} {vs : List Value}, AccR h₃ h rs vs → (∀ r ∈ rs, ∃ xs, r = .new xs) → ∀ a, (.ref a : Value) ∈ vs → ∃ o, h.get? a = some o
  | [], vs, e, _, a, ha => by simp only [AccR] at e; subst e; simp at ha
  | .d x :: rs, vs, _, hn, a, ha => by obtain ⟨xs, e⟩ := hn _ List.mem_cons_self; cases e
  | .new xs :: rs, vs, ⟨b, ws, e, p, ⟨items, ⟨n, ho⟩, hv⟩, r, q⟩, hn, a, ha => by
    subst e
    rcases List.mem_cons.mp ha with e | ha
    · cases e; exact ⟨_, ho⟩
    · exact q.in_heap (fun r hr => hn r (List.mem_cons_of_mem _ hr)) a ha
  | .lst _ :: _, _, e, _, _, _ => e.elim
theorem AccR.snocD {h₃ h : Heap} {x : D} {v : Value} (hv : V h x v) : ∀ {rs : List Res} {vs : List Value}, AccR h₃ h rs vs → (∀ r ∈ rs, ∃ y, r = .d y) → AccR h₃ h (rs ++ [.d x]) (vs ++ [v])
  | [], vs, e, _ => by simp only [AccR] at e; subst e; exact ⟨v, [], rfl, hv, rfl⟩
  | .d y :: rs, vs, ⟨u, ws, e, p, q⟩, hn => by subst e; exact ⟨u, _, rfl, p, q.snocD hv fun r hr => hn r (List.mem_cons_of_mem _ hr)⟩
  | .new xs :: rs, vs, _, hn => by obtain ⟨y, e⟩ := hn _ List.mem_cons_self; cases e
  | .lst _ :: _, _, e, _ => e.elim
theorem AccR.snocN {h₃ h : Heap} {xs : List D} {a : Addr} (hf : h₃.get? a = none) (hp : PL h a xs) : ∀ {rs : List Res} {vs : List Value}, AccR h₃ h rs vs → (∀ r ∈ rs, ∃ y, r = .new y) → (.ref a : Value) ∉ vs → AccR h₃ h (rs ++ [.new xs]) (vs ++ [.ref a])
  | [], vs, e, _, _ => by simp only [AccR] at e; subst e; exact ⟨a, [], rfl, hf, hp, by simp, rfl⟩
  | .d y :: rs, vs, _, hn, _ => by obtain ⟨y, e⟩ := hn _ List.mem_cons_self; cases e
  | .new ys :: rs, vs, ⟨b, ws, e, p, q, r, t⟩, hn, hni => by
    subst e
    refine ⟨b, _, rfl, p, q, ?_, t.snocN hf hp (fun r hr => hn r (List.mem_cons_of_mem _ hr)) fun h => hni (List.mem_cons_of_mem _ h)⟩
    intro hm
    rcases List.mem_append.mp hm with hm | hm
    · exact r hm
    · have := List.mem_singleton.mp hm
      exact hni (by rw [this]; exact List.mem_cons_self)
  | .lst _ :: _, _, e, _, _ => e.elim
theorem AccR.length {h₃ h : Heap} : ∀ {rs : List Res} {vs : List Value}, AccR h₃ h rs vs → vs.length = rs.length
  | [], vs, e => by simp only [AccR] at e; subst e; rfl
  | .d x :: rs, vs, ⟨v, ws, e, p, q⟩ => by subst e; simp [q.length]
  | .new xs :: rs, vs, ⟨a, ws, e, p, _, r, q⟩ => by subst e; simp [q.length]
  | .lst _ :: _, _, e => e.elim
theorem AccR.vs {h₃ h : Heap} : ∀ {ds : List D} {vs : List Value}, AccR h₃ h (ds.map .d) vs → Vs h ds vs
  | [], vs, e => by simpa [AccR, Vs] using e
  | d :: ds, vs, ⟨v, ws, e, p, q⟩ => by subst e; exact Vs.cons p q.vs

section
variable {X : Cx} {A : Around} {g : Heap} {env : Env} {ρ : Rho} {σ : Sig} {E : Value → Shared → Prop}

theorem compEnv_new {scope : Scope} {cl : List (Str × Addr)} {s : Shared} {P : Env → Shared → Prop}
    (k : P (newEnv scope s.heap.objs.size env.globals (cellsFrom (s.heap.objs.size + 1) scope.names cl) env.qual none .none (some env) builtinsNs) { s with heap := pushCells (s.heap.push { cls := .type "dict", data := .dict #[] }) scope.names }) :
    wpAny (model X.prog X.w) A (newFunctionEnv scope env.globals cl [] env.qual none .none (some env)) P E s := by
  simp only [newFunctionEnv, Option.isSome_some, if_true]
  refine wpAny_bind (wpAny_alloc ?_)
  refine wpAny_bind (wpAny_layCells _ (fun name kind cells => by cases hkc : kind == NameKind.cell <;> simp [hkc]) _ _ _ _ ?_)
  rw [show ({ s with heap := s.heap.push { cls := .type "dict", data := .dict #[] } } : Shared).heap.objs.size = s.heap.objs.size + 1 from Heap.size_push ..]
  refine wpAny_bind ?_
  rw [List.forIn_nil]
  exact wpAny_pure (wpAny_pure k)

/-- the frame of a comprehension -/
theorem St.comp {scope : Scope} {cl : List (Str × Addr)} {h hc : Heap} {ρc : Rho} (S : SX X g env ρ σ h) (hk : scope.kind = .function)
    (hcl : ∀ x c, cl.lookup x = some c → ∃ y, env.cells.lookup y = some c) (hcla : ∀ x y c, cl.lookup x = some c → cl.lookup y = some c → x = y)
    (hρ : ∀ p ∈ ρc, ρ.lookup p.1 = some p.2 ∧ (env.kindOf p.1 = some .cell ∨ env.kindOf p.1 = some .free) ∧ ∀ C, (compE scope cl C env).cells.lookup p.1 = env.cells.lookup p.1)
    (hρk : ∀ p ∈ ρc, ∀ C, (compE scope cl C env).kindOf p.1 ≠ some .local)
    (e : hc = pushCells (h.push { cls := .type "dict", data := .dict #[] }) scope.names) : SX X g (compE scope cl h.objs.size env) ρc σ hc := by
  have x1 : Ext h hc := by subst e; exact (Ext.push _ _).trans (pushCells_keeps _ _)
  have hsz : (h.push { cls := .type "dict", data := .dict #[] }).objs.size = h.objs.size + 1 := Heap.size_push ..
  have hC : h.get? h.objs.size = none := Heap.get?_none_of_le (Nat.le_refl _)
  have S1 := S.ext x1
  have hns : hc.Ns h.objs.size fun _ => none := by
    subst e
    exact (Heap.Ns.new h (.type "dict")).keeps (pushCells_keeps _ _)
  have hlk : ∀ x c, (compE scope cl h.objs.size env).cells.lookup x = some c → cl.lookup x = some c ∨ (h.get? c = none ∧ hc.IsCell c none) := fun x c hx => by
    have hx' : (cellsFrom (h.push { cls := .type "dict", data := .dict #[] }).objs.size scope.names cl).lookup x = some c := by rw [hsz]; exact hx
    rcases cf_lookup _ _ _ _ _ hx' with q | ⟨q1, q2⟩
    · exact .inl q
    · exact .inr ⟨(Ext.push _ _).none q1, by subst e; exact q2⟩
  refine {
    glob := S.glob
    keep := S.keep.trans x1
    kind := hk
    globals := S.globals
    builtins := S.builtins
    out := S.keep.none hC
    ns := ⟨_, hns, fun x d h1 h2 => ?_⟩
    cel := fun x d h1 h2 => ?_
    cok := fun x c h1 => ?_
    apart := fun x y c h1 h2 => ?_
    own := fun a c h1 => let ⟨p, q, r⟩ := S1.own a c h1; ⟨p, q, ?_⟩ }
  · exact absurd h2 (hρk _ (mem_of_lookup h1) _)
  · obtain ⟨p1, p2, p3⟩ := hρ _ (mem_of_lookup h1)
    obtain ⟨c, v, q1, q2, q3⟩ := S1.cel x d p1 p2
    exact ⟨c, v, (p3 _).trans q1, q2, q3⟩
  · rcases hlk x c h1 with q | ⟨q1, q2⟩
    · obtain ⟨y, hy⟩ := hcl x c q
      exact S1.cok y c hy
    · exact ⟨S.keep.none q1, _, q2⟩
  · have hx' : (cellsFrom (h.push { cls := .type "dict", data := .dict #[] }).objs.size scope.names cl).lookup x = some c := by rw [hsz]; exact h1
    have hy' : (cellsFrom (h.push { cls := .type "dict", data := .dict #[] }).objs.size scope.names cl).lookup y = some c := by rw [hsz]; exact h2
    refine cf_apart _ _ _ (fun x c hx => ?_) hcla x y c hx' hy'
    obtain ⟨z, hz⟩ := hcl x c hx
    obtain ⟨_, v, o, ho, _⟩ := S.cok z c hz
    exact ⟨o, Heap.get?_push_of_some _ ho⟩
  · obtain ⟨o, ho, _⟩ := (S.own a c h1).1.some
    exact pushed_ne ho
end
end Mine

namespace Mine
open PySem PySem.W PySem.Calls PyProof.Rows

section
variable (X : Cx) (A : Around) (g : Heap) (env : Env) (ρ : Rho) (σ : Sig)
def CT (ifs : List Expr) (Q : Bool → Prop) : Prop := match ifs with | [] => Q true | [t] => Tr X A g env ρ σ t Q | _ => False
end
section
variable {X : Cx} {A : Around} {g : Heap} {env : Env} {ρ : Rho} {σ : Sig} {E : Value → Shared → Prop}

theorem CT.run {ifs : List Expr} {Q : Bool → Prop} {s : Shared} (S : SX X g env ρ σ s.heap) (H : CT X A g env ρ σ ifs Q) :
    wpAny (model X.prog X.w) A (forIn ifs true fun c r => if r = true then do let ok ← isTrue c env (eval c env); pure (ForInStep.yield ok) else pure (ForInStep.yield r)) (PT s Q) NoE s := by
  match ifs, H with
  | [], H => rw [List.forIn_nil]; exact wpAny_pure ⟨s.heap, s.toks, rfl, .refl _, H⟩
  | [t], H =>
    rw [List.forIn_cons]
    refine wpAny_bind ?_
    simp only [if_true]
    refine wpAny_bind (useT (H s S) S fun b h1 tk1 S1 x1 q => wpAny_pure ?_)
    dsimp only
    rw [List.forIn_nil]
    exact wpAny_pure ⟨h1, tk1, rfl, x1, q⟩

structure CompOK (env : Env) (ρ : Rho) (scope : Scope) (cl : List (Str × Addr)) (x : Str) (ρc : Rho) : Prop where
  clos : closureFor scope env = pure cl
  kind : scope.kind = .function
  names : ∀ x ∈ scope.names, x.2 = .local → scope.names.lookup x.1 = some .local
  clE : ∀ p ∈ cl, env.cells.lookup p.1 = some p.2
  xcl : cl.lookup x = none
  rho : ∀ p ∈ ρc, ρ.lookup p.1 = some p.2 ∧ (env.kindOf p.1 = some .cell ∨ env.kindOf p.1 = some .free) ∧ ∀ C, (compE scope cl C env).cells.lookup p.1 = env.cells.lookup p.1
  rhok : ∀ p ∈ ρc, ∀ C, (compE scope cl C env).kindOf p.1 ≠ some .local
  var : ρc.lookup x = none
  st : ∀ C, stOk (compE scope cl C env) x = true

def CompQ (X : Cx) (A : Around) (g : Heap) (env : Env) (σ : Sig) (scope : Scope) (cl : List (Str × Addr)) (x : Str) (ρc : Rho) (ifs : List Expr) (elt : Expr) (R : List Res → Prop) (ds : List D) : Prop :=
  ∃ (p : D → Bool) (Fv : D → Res), ((∀ d ∈ ds, ∃ y, Fv d = .d y) ∨ (∀ d ∈ ds, ∃ y, Fv d = .new y)) ∧ ds.length < 2 ^ 20 ∧
    (∀ C d, d ∈ ds → CT X A g (compE scope cl C env) ((x, d) :: ρc) σ ifs (fun b => b = p d)) ∧
    (∀ C d, d ∈ ds → p d = true → Ev X A g (compE scope cl C env) ((x, d) :: ρc) σ elt (fun r => r = Fv d)) ∧ R ((ds.filter p).map Fv)

theorem storeVarB {s : Shared} {x : Str} {d : D} {v : Value} {P : Unit → Shared → Prop} (S : SX X g env ρ σ s.heap) (hv : V s.heap d v) (ho : stOk env x = true)
    (k : ∀ a h' tk, (a = env.locals ∨ env.cells.lookup x = some a) → SX X g env ((x, d) :: ρ) σ h' → Heap.SameBut a s.heap h' → TG s.heap h' → P () { s with heap := h', toks := tk }) : wpAny (model X.prog X.w) A (storeName env x v) P E s := by
  simp only [stOk, Bool.or_eq_true, Bool.and_eq_true, beq_iff_eq] at ho
  rcases ho with hl | ⟨hc, hi⟩
  · obtain ⟨m, hn, _⟩ := S.ns
    exact wpAny_storeName_local hl hn (fun h' hn' hs => k _ h' _ (.inl rfl) (S.store hn hl hv hn' hs) hs (TG.sameBut hs (Ns_noTup hn))) (St.kindF S)
  · obtain ⟨c, hc'⟩ := Option.isSome_iff_exists.mp hi
    obtain ⟨_, v₀, hc₀⟩ := S.cok x c hc'
    exact wpAny_storeName_cell S.kind hc hc' hc₀ fun h' hn' hs => k _ h' _ (.inr hc') (S.storeC hc hv hc' hn' hs) hs (TG.sameBut hs (IsCell.noTup hc₀))

theorem AccR.snoc {h₃ h : Heap} {r : Res} {v : Value} {h₀ : Heap} (x : Ext h₀ h) (hx : ∀ b, h₀.get? b = none → h₃.get? b = none) (hr : VR h₀ h r v) {rs : List Res} {vs : List Value} (a : AccR h₃ h rs vs) (a₀ : AccR h₃ h₀ rs vs)
    (hk : ((∃ y, r = .d y) ∧ ∀ r ∈ rs, ∃ y, r = .d y) ∨ ((∃ y, r = .new y) ∧ ∀ r ∈ rs, ∃ y, r = .new y)) : AccR h₃ h (rs ++ [r]) (vs ++ [v]) := by
  rcases hk with ⟨⟨y, rfl⟩, hn⟩ | ⟨⟨y, rfl⟩, hn⟩
  · exact a.snocD hr hn
  · obtain ⟨b, rfl, hf, hp⟩ := hr
    refine a.snocN (hx b hf) hp hn fun hm => ?_
    obtain ⟨o, ho⟩ := a₀.in_heap hn b hm
    rw [hf] at ho; cases ho

/-- the end of a comprehension -/
structure CompEnd (s : Shared) (h₃ h' : Heap) (D C : Addr) (rs : List Res) (vs : List Value) : Prop where
  ext : Ext s.heap h'
  dnew : s.heap.get? D = none
  cnew : s.heap.get? C = none
  ne : D ≠ C
  list : ∃ n, h'.get? D = some { cls := .type "list", data := .seq vs.toArray n }
  ns : ∃ m, h'.Ns C m
  acc : AccR h₃ h' rs vs
  h3 : ∀ b, h₃.get? b = none → s.heap.get? b = none
  hD : ∃ o, h₃.get? D = some o
  hC : ∃ o, h₃.get? C = some o
  len : vs.length < 2 ^ 20

theorem ext_of_same {h₀ h h' : Heap} {a : Addr} (x : Ext h₀ h) (hs : Heap.SameBut a h h') (hn : h₀.get? a = none) : Ext h₀ h' := fun b o e => by
  have hne : b ≠ a := by rintro rfl; rw [hn] at e; cases e
  exact (hs.2 b hne).trans (x b o e)

theorem comp_core {elt iter : Expr} {x : Str} {px : Pos} {ifs : List Expr} {scope : Scope} {cl : List (Str × Addr)} {pos fpos : Pos} {use : Option (Value → Sem Unit)} {QQ : Value → Shared → Prop} {ρc : Rho} {s : Shared} {R : List Res → Prop} {n : Nat} (hA : Rm n A)
    (S : SX X g env ρ σ s.heap) (O : CompOK env ρ scope cl x ρc)
    (Hit : ItAt X A env σ iter s (CompQ X A g env σ scope cl x ρc ifs elt R))
    (fin : ∀ h₃ h' tk D C rs vs, R rs → CompEnd s h₃ h' D C rs vs → compPost (model X.prog X.w) A NoE use QQ (.ref D) C (.ok .next) { s with heap := h', toks := tk })
    (hs : ∀ x, foldedSetIterable iter env x = pure x) :
    wpAny (model X.prog X.w) A (comprehension (.ListComp elt [⟨.Name x px, iter, ifs, 0⟩] scope pos) scope env fpos (newList []) false (eval iter env) use) QQ NoE s := by
  refine wpAny_comprehension_free (cl := cl) rfl hs O.clos O.kind O.names (wpAny_mono Hit (fun xv s₁ h₁ => wpAny_mono h₁ (fun it s₂ h₂ => ?_) fun _ _ f => f) fun _ _ f => f)
  obtain ⟨ds, h₂, tk₂, rfl, x2, ⟨I, fp, wr, P, Sq, rfl, W, hst, hnew, hfp, hex, hv⟩, p, Fv, hkind, hlen, htest, helt, hR⟩ := h₂
  refine wpAny_newObj_type ?_
  refine compEnv_new (s := { s with heap := h₂.push { cls := .type "list", data := .seq ([] : List Value).toArray }, toks := tk₂ }) ?_
  dsimp only
  generalize ehl : h₂.push { cls := .type "list", data := .seq ([] : List Value).toArray } = hl
  have hlz : hl.objs.size = h₂.objs.size + 1 := by rw [← ehl]; exact Heap.size_push ..
  generalize eh3 : pushCells (hl.push { cls := .type "dict", data := .dict #[] }) scope.names = h₃
  have xl : Ext h₂ hl := by rw [← ehl]; exact Ext.push _ _
  have x3 : Ext hl h₃ := by rw [← eh3]; exact (Ext.push _ _).trans (pushCells_keeps _ _)
  have x03 : Ext s.heap h₃ := x2.trans (xl.trans x3)
  have hDn : h₂.get? h₂.objs.size = none := Heap.get?_none_of_le (Nat.le_refl _)
  have hCn : hl.get? hl.objs.size = none := Heap.get?_none_of_le (Nat.le_refl _)
  have hDl : hl.get? h₂.objs.size = some { cls := .type "list", data := .seq ([] : List Value).toArray } := by rw [← ehl]; exact Heap.get?_push_size _ rfl
  have hDC : h₂.objs.size ≠ hl.objs.size := by rw [hlz]; exact Nat.ne_of_lt (Nat.lt_succ_self _)
  generalize h₂.objs.size = D at hDn hDl hDC ⊢
  have S2 := S.ext x2
  have Sl := S2.ext xl
  have hclE : ∀ x c, cl.lookup x = some c → env.cells.lookup x = some c := fun x c h => O.clE (x, c) (mem_of_lookup h)
  have S3 : SX X g (compE scope cl hl.objs.size env) ρc σ h₃ := Sl.comp O.kind (fun x c h => ⟨x, hclE x c h⟩) (fun x y c h1 h2 => S.apart x y c (hclE x c h1) (hclE y c h2)) O.rho O.rhok eh3.symm
  have hcells : ∀ x c, (compE scope cl hl.objs.size env).cells.lookup x = some c → cl.lookup x = some c ∨ hl.get? c = none := fun x c hx => by
    have hx' : (cellsFrom (hl.push { cls := .type "dict", data := .dict #[] }).objs.size scope.names cl).lookup x = some c := by
      rw [show (hl.push { cls := .type "dict", data := .dict #[] }).objs.size = hl.objs.size + 1 from Heap.size_push ..]; exact hx
    rcases cf_lookup _ _ _ _ _ hx' with q | ⟨q, _⟩
    · exact .inl q
    · exact .inr ((Ext.push hl _).none q)
  show codeAny (model X.prog X.w) A (.compStart (.ListComp elt [⟨.Name x px, iter, ifs, 0⟩] scope pos) 0 (.ref I) (.ref D) (compE scope cl hl.objs.size env)) (compPost (model X.prog X.w) A NoE use QQ (.ref D) hl.objs.size) { s with heap := h₃, toks := tk₂ }
  have hO := O.st hl.objs.size
  have htest' := fun d hd => htest hl.objs.size d hd
  have helt' := fun d hd hp => helt hl.objs.size d hd hp
  have hCl : (compE scope cl hl.objs.size env).locals = hl.objs.size := rfl
  generalize hl.objs.size = C at hCn hDC S3 hcells hO htest' helt' hCl ⊢
  generalize compE scope cl C env = cE at S3 hcells hO htest' helt' hCl ⊢
  have hCn2 : h₂.get? C = none := xl.none hCn
  have hbase : ∀ b ∈ fp, ∃ o, h₂.get? b = some o := fun b hb => let ⟨o, e, _⟩ := hex 0 h₂ hst b hb; ⟨o, e⟩
  have hfpC : ∀ b ∈ fp, b ≠ C ∧ b ≠ D ∧ ∀ x, cE.cells.lookup x ≠ some b := fun b hb => by
    obtain ⟨o, ho⟩ := hbase b hb
    refine ⟨fun e => (by rw [e, hCn2] at ho; cases ho), fun e => (by rw [e, hDn] at ho; cases ho), fun x hx => ?_⟩
    rcases hcells x b hx with q | q
    · exact (hfp b hb).2.2 x (hclE x b q)
    · rw [xl b o ho] at q; cases q
  have hwr : ∀ b ∈ wr, g.get? b = none ∧ b ≠ cE.locals ∧ σ b = none ∧ ∀ x, cE.cells.lookup x ≠ some b := fun b hb =>
    ⟨S.keep.none (hnew b hb), by rw [hCl]; exact (hfpC b (W.sub b hb)).1, (hfp b (W.sub b hb)).2.1, (hfpC b (W.sub b hb)).2.2⟩
  have hDcell : ∀ x, cE.cells.lookup x ≠ some D := fun x hx => by
    rcases hcells x D hx with q | q
    · obtain ⟨_, v, o, ho, _⟩ := S2.cok x D (hclE x D q)
      rw [hDn] at ho; cases ho
    · rw [hDl] at q; cases q
  have hσD : σ D = none := (S2.fresh hDn).1
  have hgD : g.get? D = none := S2.keep.none hDn
  have cex : ∀ x c, cE.cells.lookup x = some c → ∃ o, h₃.get? c = some o := fun x c h => by
    obtain ⟨_, v, o, ho, _⟩ := S3.cok x c h; exact ⟨o, ho⟩
  have hC3 : ∃ o, h₃.get? C = some o := by obtain ⟨m, ⟨o, _, _, ho, _⟩, _⟩ := S3.ns; exact ⟨o, by rw [← hCl]; exact ho⟩
  have hD3 : ∃ o, h₃.get? D = some o := ⟨_, x3 _ _ hDl⟩
  -- what the variable's place is
  have hplace : ∀ a, (a = cE.locals ∨ cE.cells.lookup x = some a) → s.heap.get? a = none ∧ a ≠ D ∧ a ∉ fp ∧ ∃ o, h₃.get? a = some o := by
    rintro a (rfl | ha)
    · rw [hCl]; exact ⟨x2.none hCn2, fun e => hDC e.symm, fun hm => (hfpC _ hm).1 rfl, hC3⟩
    · refine ⟨?_, fun e => hDcell x (e ▸ ha), fun hm => (hfpC _ hm).2.2 x ha, cex x a ha⟩
      rcases hcells x a ha with q | q
      · rw [O.xcl] at q; cases q
      · exact x2.none (xl.none q)
  have hfd : ∀ i, ∀ r ∈ ((ds.take i).filter p).map Fv, ∃ d ∈ ds, r = Fv d := fun i r hr => by
    obtain ⟨d, hd, rfl⟩ := List.mem_map.mp hr
    exact ⟨d, List.mem_of_mem_take (List.mem_filter.mp hd).1, rfl⟩
  have loop : codeAny (model X.prog X.w) A (.compLoop (.ListComp elt [⟨.Name x px, iter, ifs, 0⟩] scope pos) 0 (.ref I) (.ref D) cE) (compPost (model X.prog X.w) A NoE use QQ (.ref D) C) { s with heap := h₃, toks := tk₂ } := by
    refine codeAny_compLoop_tests
      (fun k s' => ∃ i h' tk vs c, k = ds.length + 1 - i ∧ i ≤ ds.length ∧ s' = { s with heap := h', toks := tk } ∧ SX X g cE ρc σ h' ∧ Sq i h' ∧ TG h₂ h' ∧ Ext s.heap h' ∧ (∀ b o, h₃.get? b = some o → ∃ o', h'.get? b = some o') ∧
        h'.get? D = some { cls := .type "list", data := .seq (List.toArray vs) c } ∧ AccR h₃ h' (((ds.take i).filter p).map Fv) vs) ?_ (ds.length + 1)
      ⟨0, h₃, tk₂, [], 0, rfl, Nat.zero_le _, rfl, S3, W.frame _ _ _ hst fun b _ o e => x3 b o (xl b o e), (xl.trans x3).tg, x03, fun b o e => ⟨o, e⟩, x3 _ _ hDl, by simp [AccR]⟩
    rintro k s' ⟨i, h', tk, vs, c, rfl, hi, rfl, S', hst', tg', xe, hdom, hD, hacc⟩
    have hnotup : ∀ b ∈ wr, ∀ items, ¬ IsTup h' b items := fun b hb => let ⟨o, _, q⟩ := hex i h' hst' b (W.sub b hb); q hb
    have hnext : ∀ h'' : Heap, (∀ b o, b ∉ wr → h'.get? b = some o → h''.get? b = some o) → SX X g cE ρc σ h'' ∧ TG h' h'' ∧ Ext s.heap h'' ∧ h''.get? D = some { cls := .type "list", data := .seq (List.toArray vs) c } ∧
        (∀ b o, h₃.get? b = none → h'.get? b = some o → h''.get? b = some o) := fun h'' hk => by
      refine ⟨St.iter S' (wr := wr) (fun b hb => ⟨(hwr b hb).1, (hwr b hb).2.1, (hwr b hb).2.2.1, (hwr b hb).2.2.2, hnotup b hb⟩) hk, fun a items t => ?_, fun b o e => hk b o (fun hb => by rw [hnew b hb] at e; cases e) (xe b o e), hk D _ (fun hb => (hfpC D (W.sub D hb)).2.1 rfl) hD,
        fun b o e1 e2 => hk b o (fun hb => ?_) e2⟩
      · obtain ⟨o, ho, r⟩ := id t
        exact ⟨o, hk a o (fun hb => hnotup a hb _ t) ho, r⟩
      · obtain ⟨o', ho'⟩ := hbase b (W.sub b hb)
        rw [x3 b o' (xl b o' ho')] at e1; cases e1
    by_cases hlt : i < ds.length
    · have hd : ds[i]? = some ds[i] := List.getElem?_eq_getElem hlt
      have hdm : ds[i] ∈ ds := List.getElem_mem hlt
      generalize ds[i] = d at hd hdm
      have htake : ds.take (i + 1) = ds.take i ++ [d] := by rw [List.take_add_one, hd]; rfl
      refine wpAny_mono (Q := fun r s₁ => ∃ v h₁ tk₁, r = some v ∧ s₁ = { s with heap := h₁, toks := tk₁ } ∧ P i v ∧ Sq (i + 1) h₁ ∧ (∀ b o, b ∉ wr → h'.get? b = some o → h₁.get? b = some o)) (E := NoE)
        (W.item i { s with heap := h', toks := tk } _ _ hlt hst' fun v h₁ tk₁ hP hst₁ hk₁ => ⟨v, h₁, tk₁, rfl, rfl, hP, hst₁, hk₁⟩) ?_ fun _ _ f => f.elim
      rintro r s₁ ⟨v, h₁, tk₁, rfl, rfl, hP, hst₁, hk₁⟩
      obtain ⟨S₁, tg₁, xe₁, hD₁, hk3₁⟩ := hnext h₁ hk₁
      have hdom₁ : ∀ b o, h₃.get? b = some o → ∃ o', h₁.get? b = some o' := fun b o e => by
        by_cases hb : b ∈ wr
        · obtain ⟨o', e', _⟩ := hex _ h₁ hst₁ b (W.sub b hb); exact ⟨o', e'⟩
        · obtain ⟨o', e'⟩ := hdom b o e; exact ⟨o', hk₁ b o' hb e'⟩
      have hacc₁ := hacc.frame tg₁ hk3₁
      refine wpAny_assign_Name (storeVarB (s := { s with heap := h₁, toks := tk₁ }) S₁ (V.mono (tg'.trans tg₁) (hv i v _ hd hP)) hO fun a h₄ tk₄ ha S₄ hs₄ tg₄ => ?_)
      obtain ⟨pa, pD, pf, p3⟩ := hplace a ha
      have xe₄ : Ext s.heap h₄ := ext_of_same xe₁ hs₄ pa
      have hD₄ : h₄.get? D = some { cls := .type "list", data := .seq (List.toArray vs) c } := (hs₄.2 D (Ne.symm pD)).trans hD₁
      have hst₄ : Sq (i + 1) h₄ := W.frame _ _ _ hst₁ fun b hb o e => (hs₄.2 b (fun q => pf (q ▸ hb))).trans e
      have hdom₄ : ∀ b o, h₃.get? b = some o → ∃ o', h₄.get? b = some o' := fun b o e => by
        by_cases hb : b = a
        · subst hb
          rcases ha with rfl | ha
          · obtain ⟨m, ⟨o, _, _, ho, _⟩, _⟩ := S₄.ns; exact ⟨o, ho⟩
          · obtain ⟨_, v, o, ho, _⟩ := S₄.cok _ _ ha; exact ⟨o, ho⟩
        · obtain ⟨o', e'⟩ := hdom₁ b o e; exact ⟨o', (hs₄.2 b hb).trans e'⟩
      have hacc₄ : AccR h₃ h₄ (((ds.take i).filter p).map Fv) vs := hacc₁.frame tg₄ fun b o e1 e2 => (hs₄.2 b (fun q => by obtain ⟨o', ho'⟩ := p3; rw [← q, e1] at ho'; cases ho')).trans e2
      have tg24 : TG h₂ h₄ := tg'.trans (tg₁.trans tg₄)
      have S4' : SX X g cE ρc σ h₄ := S₄.weaken fun y dy e => by
        rw [List.lookup_cons]
        cases hb : y == x with
        | true => rw [beq_iff_eq.mp hb, O.var] at e; cases e
        | false => exact e
      refine useT (s := { s with heap := h₄, toks := tk₄ }) (CT.run S₄ (htest' d hdm)) S₄ fun b h₅ tk₅ S₅ x₅ hb => ?_
      have S5' := S4'.ext x₅
      have hacc₅ := hacc₄.frame x₅.tg fun b o _ e => x₅ b o e
      cases b with
      | false =>
        rw [if_neg (by simp)]
        refine ⟨ds.length + 1 - (i + 1), by omega, i + 1, h₅, tk₅, vs, c, rfl, hlt, rfl, S5', W.frame _ _ _ hst₄ fun b _ o e => x₅ b o e, tg24.trans x₅.tg, xe₄.trans x₅, fun b o e => let ⟨o', e'⟩ := hdom₄ b o e; ⟨o', x₅ _ _ e'⟩, x₅ _ _ hD₄, ?_⟩
        rw [htake, List.filter_append, List.map_append, List.filter_cons_of_neg (by rw [← hb]; simp), List.filter_nil, List.map_nil, List.append_nil]
        exact hacc₅
      | true =>
        rw [if_pos rfl]
        refine Mine.use (s := { s with heap := h₅, toks := tk₅ }) (helt' d hdm hb.symm _ S₅) S₅ fun y r h₆ tk₆ S₆ x₆ y₆ er => ?_
        subst er
        have hacc₆ := hacc₅.frame x₆.tg fun b o _ e => x₆ b o e
        have hD₆ : h₆.get? D = some { cls := .type "list", data := .seq (List.toArray vs) c } := x₆ _ _ (x₅ _ _ hD₄)
        have hvl : vs.length ≤ ds.length := by
          rw [hacc.length, List.length_map]
          exact Nat.le_trans (List.length_filter_le _ _) (by rw [List.length_take]; omega)
        refine wpAny_list_append_plain (s := { s with heap := h₆, toks := tk₆ }) ⟨c, hD₆⟩ (fun h₇ hp₇ hs₇ => ?_) (by have : sizeLine = 2 ^ 24 := rfl; simp only [List.size_toArray]; omega)
        have nt : ∀ items, ¬ IsTup h₆ D items := by
          rintro items ⟨o, ho, hc, _⟩
          rw [hD₆] at ho; cases ho; simp at hc
        have tg₇ : TG h₆ h₇ := TG.sameBut hs₇ nt
        have kp₇ : ∀ b o, b ∉ [D] → h₆.get? b = some o → h₇.get? b = some o := fun b o hb e => (hs₇.2 b (by simpa using hb)).trans e
        have S₇ : SX X g cE ρc σ h₇ := St.iter (S5'.ext x₆) (wr := [D]) (fun b hb => by rw [List.mem_singleton.mp hb]; exact ⟨hgD, by rw [hCl]; exact hDC, hσD, hDcell, nt⟩) kp₇
        obtain ⟨c', hc'⟩ := hp₇
        refine ⟨ds.length + 1 - (i + 1), by omega, i + 1, h₇, tk₆, vs ++ [y], c', rfl, hlt, rfl, S₇, W.frame _ _ _ hst₄ fun b hb o e => kp₇ b o (by simpa using (hfpC b hb).2.1) (x₆ b o (x₅ b o e)), tg24.trans (x₅.tg.trans (x₆.tg.trans tg₇)),
          ext_of_same (xe₄.trans (x₅.trans x₆)) hs₇ (x2.none hDn), fun b o e => ?_, by rw [hc']; simp, ?_⟩
        · by_cases hb : b = D
          · subst hb; exact ⟨_, hc'⟩
          · obtain ⟨o', e'⟩ := hdom₄ b o e; exact ⟨o', kp₇ b o' (by simpa using hb) (x₆ _ _ (x₅ _ _ e'))⟩
        · rw [htake, List.filter_append, List.map_append, List.filter_cons_of_pos (by rw [← hb]), List.filter_nil, List.map_singleton]
          have hdom₅ : ∀ b, h₅.get? b = none → h₃.get? b = none := fun b e => by
            cases e3 : h₃.get? b with
            | none => rfl
            | some o => obtain ⟨o', e'⟩ := hdom₄ b o e3; rw [x₅ _ _ e'] at e; cases e
          have A7 : AccR h₃ h₆ (((ds.take i).filter p).map Fv ++ [Fv d]) (vs ++ [y]) := by
            refine AccR.snoc x₆ hdom₅ y₆ hacc₆ hacc₅ ?_
            rcases hkind with hk | hk
            · exact .inl ⟨hk d hdm, fun r hr => let ⟨d', h1, h2⟩ := hfd i r hr; h2 ▸ hk d' h1⟩
            · exact .inr ⟨hk d hdm, fun r hr => let ⟨d', h1, h2⟩ := hfd i r hr; h2 ▸ hk d' h1⟩
          exact A7.frame tg₇ fun b o e1 e2 => kp₇ b o (by
            intro hm
            rw [List.mem_singleton.mp hm] at e1
            obtain ⟨o', e'⟩ := hD3
            rw [e1] at e'; cases e') e2
    · have he : i = ds.length := by omega
      subst he
      refine W.done _ _ _ hst' fun h₁ tk₁ hk₁ => ?_
      obtain ⟨S₁, tg₁, xe₁, hD₁, hk3₁⟩ := hnext h₁ hk₁
      rw [List.take_length] at hacc
      refine fin h₃ h₁ tk₁ D C _ vs hR ⟨xe₁, x2.none hDn, x2.none hCn2, hDC, ⟨c, hD₁⟩, ?_, hacc.frame tg₁ hk3₁, fun b e => x03.none e, hD3, hC3, ?_⟩
      · obtain ⟨m, hm, _⟩ := S₁.ns; exact ⟨m, by rw [← hCl]; exact hm⟩
      · rw [hacc.length, List.length_map]
        exact Nat.lt_of_le_of_lt (List.length_filter_le _ _) hlen
  have hst₃ : Sq 0 h₃ := W.frame _ _ _ hst fun b _ o e => x3 b o (xl b o e)
  exact codeAny_compStart_list loop (W.self 0 _ _ _ hst₃ loop)
end
end Mine

namespace Mine
open PySem PySem.W PySem.Calls PyProof.Rows

/-- a list of lists of one's own -/
def Grid (σ : Sig) (a : Addr) (xss : List (List D)) : Prop := ∃ as : List Addr, as.Nodup ∧ a ∉ as ∧ as.length = xss.length ∧ σ a = some (.list (as.map fun b => .val (.ref b))) ∧ ∀ (i : Nat) b xs, as[i]? = some b → xss[i]? = some xs → σ b = some (.list xs)
def putAll : List Addr → List (List D) → Sig → Sig
  | a :: as, xs :: xss, σ => putAll as xss (σ.put a (.list xs))
  | _, _, σ => σ
theorem putAll_not : ∀ {as : List Addr} {xss : List (List D)} {σ : Sig} {b : Addr}, b ∉ as → putAll as xss σ b = σ b
  | [], [], σ, b, _ => rfl
  | [], _ :: _, σ, b, _ => rfl
  | _ :: _, [], σ, b, _ => rfl
  | a :: as, xs :: xss, σ, b, h => by
    simp only [List.mem_cons, not_or] at h
    rw [putAll, putAll_not h.2, Sig.put_ne _ _ h.1]
theorem putAll_at : ∀ {as : List Addr} {xss : List (List D)} {σ : Sig} {i : Nat} {b : Addr} {xs : List D}, as.Nodup → as[i]? = some b → xss[i]? = some xs → putAll as xss σ b = some (.list xs)
  | [], xss, σ, i, b, xs, _, h1, h2 => by simp at h1
  | a :: as, [], σ, i, b, xs, _, h1, h2 => by simp at h2
  | a :: as, ys :: yss, σ, 0, b, xs, hn, h1, h2 => by
    simp only [List.getElem?_cons_zero, Option.some.injEq] at h1 h2
    subst h1 h2
    rw [putAll, putAll_not (List.nodup_cons.mp hn).1, Sig.put_same]
  | a :: as, ys :: yss, σ, i + 1, b, xs, hn, h1, h2 => by
    rw [putAll]
    exact putAll_at (List.nodup_cons.mp hn).2 (by simpa using h1) (by simpa using h2)
theorem Grid.of_putAll {σ : Sig} {a : Addr} {as : List Addr} {xss : List (List D)} (hn : as.Nodup) (ha : a ∉ as) (hl : as.length = xss.length) : Grid ((putAll as xss σ).put a (.list (as.map fun b => .val (.ref b)))) a xss :=
  ⟨as, hn, ha, hl, Sig.put_same _ _ _, fun i b xs h1 h2 => by
    have hb : b ∈ as := List.mem_of_getElem? h1
    rw [Sig.put_ne _ _ (fun e : b = a => ha (by rw [← e]; exact hb))]
    exact putAll_at hn h1 h2⟩
theorem Grid.row {σ : Sig} {a : Addr} {xss : List (List D)} (G : Grid σ a xss) {i : Nat} {xs : List D} (h : xss[i]? = some xs) : ∃ (b : Addr) (as : List Addr), as[i]? = some b ∧ σ a = some (.list (as.map fun b => .val (.ref b))) ∧ σ b = some (.list xs) ∧ as.length = xss.length ∧ ∀ ys, Grid (σ.put b (.list ys)) a (xss.set i ys) := by
  obtain ⟨as, hn, ha, hl, h1, h2⟩ := G
  have hi : i < as.length := by rw [hl]; exact (List.getElem?_eq_some_iff.mp h).1
  have hb : as[i]? = some as[i] := List.getElem?_eq_getElem hi
  generalize as[i] = b at hb
  refine ⟨b, as, hb, h1, h2 i b xs hb h, hl, fun ys => ⟨as, hn, ha, by simpa using hl, ?_, fun j c zs h3 h4 => ?_⟩⟩
  · rw [Sig.put_ne _ _ (fun e : a = b => ha (by rw [e]; exact List.mem_of_getElem? hb))]; exact h1
  · by_cases hj : j = i
    · subst hj
      rw [hb] at h3; cases h3
      rw [Sig.put_same]
      rw [List.getElem?_set_self (by rw [← hl]; exact hi)] at h4
      cases h4; rfl
    · rw [List.getElem?_set_ne (Ne.symm hj)] at h4
      have hcb : c ≠ b := by
        rintro rfl
        have h5 := List.getElem?_eq_some_iff.mp h3
        have h6 := List.getElem?_eq_some_iff.mp hb
        obtain ⟨p1, q1⟩ := h5; obtain ⟨p2, q2⟩ := h6
        exact hj ((List.getElem_inj hn).mp (q1.trans q2.symm))
      rw [Sig.put_ne _ _ hcb]
      exact h2 j c zs h3 h4

theorem AccR.refs {h₃ h : Heap} : ∀ {xss : List (List D)} {vs : List Value}, AccR h₃ h (xss.map .new) vs → ∃ as : List Addr, vs = as.map .ref ∧ as.Nodup ∧ as.length = xss.length ∧ (∀ a ∈ as, h₃.get? a = none) ∧ ∀ (i : Nat) b xs, as[i]? = some b → xss[i]? = some xs → PL h b xs
  | [], vs, e => by simp only [List.map_nil, AccR] at e; subst e; exact ⟨[], rfl, List.nodup_nil, rfl, by simp, by simp⟩
  | xs :: xss, vs, e => by
    obtain ⟨a, ws, rfl, p, q, r, t⟩ := e
    obtain ⟨as, rfl, h1, h2, h3, h4⟩ := AccR.refs t
    have ha : a ∉ as := fun hm => r (List.mem_map.mpr ⟨a, hm, rfl⟩)
    refine ⟨a :: as, rfl, List.nodup_cons.mpr ⟨ha, h1⟩, by simp [h2], ?_, ?_⟩
    · intro b hb
      rcases List.mem_cons.mp hb with rfl | hb
      · exact p
      · exact h3 b hb
    · intro i b ys e1 e2
      cases i with
      | zero => simp only [List.getElem?_cons_zero, Option.some.injEq] at e1 e2; subst e1 e2; exact q
      | succ i => exact h4 i b ys (by simpa using e1) (by simpa using e2)

section
variable {X : Cx} {A : Around} {g : Heap} {env : Env} {ρ : Rho} {σ : Sig} {E : Value → Shared → Prop}

theorem PL.same {h h' : Heap} {a b : Addr} {xs : List D} (p : PL h a xs) (hs : Heap.SameBut b h h') (ne : a ≠ b) (hb : ∀ items, ¬ IsTup h b items) : PL h' a xs := p.sameBut hs (TG.sameBut hs hb) ne

/-- a comprehension of plain results -/
theorem Ev.comp {n : Nat} (hA : Rm n A) {elt iter : Expr} {x : Str} {px : Pos} {ifs : List Expr} {scope : Scope} {cl : List (Str × Addr)} {pos : Pos} {ρc : Rho} {Q : Res → Prop} (O : CompOK env ρ scope cl x ρc)
    (H : Itr X A g env ρ σ iter (CompQ X A g env σ scope cl x ρc ifs elt (fun rs => ∃ ds, rs = ds.map .d ∧ Q (.new ds))))
    (hs : ∀ x, foldedSetIterable iter env x = pure x := by intro _; rfl) : Ev X A g env ρ σ (.ListComp elt [⟨.Name x px, iter, ifs, 0⟩] scope pos) Q := fun s S => by
  rw [eval_ListComp]
  refine comp_core hA S O (H s S) (fun h₃ h' tk D C rs vs ⟨ds, e, q⟩ F => ?_) hs
  subst e
  obtain ⟨m, hm⟩ := F.ns
  obtain ⟨c, hc⟩ := F.list
  refine ⟨m, hm, fun h'' hs'' => .mk (.new ds) (ext_of_same F.ext hs'' F.cnew) ⟨D, rfl, F.dnew, ?_⟩ q⟩
  exact PL.same ⟨_, ⟨c, hc⟩, by simpa using F.acc.vs⟩ hs'' F.ne (Ns_noTup hm)

theorem St.letGo {h h' : Heap} {C : Addr} (S : SX X g env ρ σ h) (hs : Heap.SameBut C h h') (hg : g.get? C = none) (hL : C ≠ env.locals) (hσ : σ C = none) (hc : ∀ x, env.cells.lookup x ≠ some C) (ht : ∀ items, ¬ IsTup h C items) : SX X g env ρ σ h' :=
  St.iter S (wr := [C]) (fun b hb => by rw [List.mem_singleton.mp hb]; exact ⟨hg, hL, hσ, hc, ht⟩) fun b o hb e => (hs.2 b (by simpa using hb)).trans e

theorem storeUse {s : Shared} {h' : Heap} {tk : Nat} {y : Str} {py : Pos} {d : D} {v : Value} {C : Addr} {m : Str → Option Value} {σ' : Sig} {Q : AF → Rho → Sig → Prop} (S : SX X g env ρ σ s.heap)
    (S' : SX X g env ρ σ' h') (P' : Stp env σ σ' s.heap h') (hv : V h' d v) (ho : stOk env y = true) (hm : h'.Ns C m) (hC : s.heap.get? C = none) (hCs : σ' C = none) (q : Q .nxt ((y, d) :: ρ) σ') :
    wpAny (model X.prog X.w) A (PySem.assign (.Name y py) env v) (fun _ s'' => ∃ m, s''.heap.Ns C m ∧ ∀ h', Heap.SameBut C s''.heap h' → PX X g env σ s Q .next { s'' with heap := h' }) NoE { s with heap := h', toks := tk } := by
  obtain ⟨hCL, _, hCc⟩ := S.freshA hC
  refine wpAny_assign_Name (storeVar (s := { s with heap := h', toks := tk }) S' hv ho fun h2 tk2 S2 P2 => ?_)
  have hm2 : h2.Ns C m := hm.at' fun o e => P2.keep C o e hCL hCs hCc
  refine ⟨m, hm2, fun h3 hs3 => ?_⟩
  have S3 := S2.letGo hs3 (S.keep.none hC) hCL hCs hCc (Ns_noTup hm2)
  have P12 := P'.trans P2
  refine .mk (h' := h3) (tk := tk2) .nxt _ _ S3 ⟨fun b o e h1 h2 h3 => ?_, fun b o e => ?_, P12.sig⟩ rfl q
  · have hne : b ≠ C := by rintro rfl; rw [hC] at e; cases e
    exact (hs3.2 b hne).trans (P12.keep b o e h1 h2 h3)
  · have hne : b ≠ C := by rintro rfl; rw [hC] at e; cases e
    obtain ⟨o', e'⟩ := P12.dom b o e
    exact ⟨o', (hs3.2 b hne).trans e'⟩

theorem X1.assignComp {n : Nat} (hA : Rm n A) {elt iter : Expr} {x y : Str} {px py : Pos} {ifs : List Expr} {scope : Scope} {cl : List (Str × Addr)} {cpos pos : Pos} {ρc : Rho} {Q : AF → Rho → Sig → Prop} (O : CompOK env ρ scope cl x ρc)
    (H : Itr X A g env ρ σ iter (CompQ X A g env σ scope cl x ρc ifs elt (fun rs => ∃ ds, rs = ds.map .d ∧ ∀ a, σ a = none → a ≠ env.locals → Q .nxt ((y, .val (.ref a)) :: ρ) (σ.put a (.list ds)))))
    (ho : stOk env y = true := by rfl)
    (hsw : swapsWith (.ListComp elt [⟨.Name x px, iter, ifs, 0⟩] scope cpos) (some (.Name y py)) pos.line env = pure true := by rfl)
    (hs : ∀ x, foldedSetIterable iter env x = pure x := by intro _; rfl) : X1 X A g env ρ σ (.Assign [.Name y py] (.ListComp elt [⟨.Name x px, iter, ifs, 0⟩] scope cpos) pos) Q := fun s S => by
  rw [exec_Assign_Name_used _ _ _ _ hsw]
  refine wpAny_bind (wpAny_standAt (wpAny_bind ?_))
  show wpAny _ A (do let _ ← comprehension (.ListComp elt [⟨.Name x px, iter, ifs, 0⟩] scope cpos) scope env _ (newList []) false (eval iter env) (some (PySem.assign (.Name y py) env))) _ _ s
  refine wpAny_bind (wpAny_mono (comp_core (use := some (PySem.assign (.Name y py) env)) (QQ := fun _ s' => PX X g env σ s Q .next s') hA S O (H s S) (fun h₃ h' tk D C rs vs ⟨ds, e, q⟩ F => ?_) hs) (fun _ s' hq => wpAny_pure (wpAny_pure hq)) fun _ _ e => e)
  subst e
  obtain ⟨m, hm⟩ := F.ns
  obtain ⟨c, hc⟩ := F.list
  obtain ⟨hσ, hL, _⟩ := S.fresh F.dnew
  have S1 : SX X g env ρ (σ.put D (.list ds)) h' := S.own_new F.ext F.dnew ⟨_, ⟨c, hc⟩, by simpa using F.acc.vs⟩
  exact storeUse S S1 (stpNew F.ext F.dnew rfl) (d := .val (.ref D)) (by simp [V]) ho hm F.cnew (by rw [Sig.put_ne _ _ (Ne.symm F.ne)]; exact (S.fresh F.cnew).1) (q D hσ hL)

theorem St.own_put {h : Heap} {a : Addr} {c : Cell} (S : SX X g env ρ σ h) (hc : c.In X.prog X.w h a) (hg : g.get? a = none) (hL : a ≠ env.locals) : SX X g env ρ (σ.put a c) h :=
  { S with
    own := fun b cc e => by
      by_cases hb : b = a
      · subst hb
        rw [Sig.put_same] at e
        cases e
        exact ⟨hc, hg, hL⟩
      · rw [Sig.put_ne _ _ hb] at e
        exact S.own b cc e }
theorem own_all {h₀ h : Heap} : ∀ {as : List Addr} {xss : List (List D)} {σ : Sig}, SX X g env ρ σ h → Stp env σ σ h₀ h → (∀ a ∈ as, h₀.get? a = none ∧ g.get? a = none ∧ a ≠ env.locals) → as.Nodup → as.length = xss.length → (∀ (i : Nat) b xs, as[i]? = some b → xss[i]? = some xs → PL h b xs) →
    SX X g env ρ (putAll as xss σ) h ∧ Stp env σ (putAll as xss σ) h₀ h
  | [], [], σ, S, P, _, _, _, _ => ⟨S, P⟩
  | [], _ :: _, σ, S, P, _, _, hl, _ => by simp at hl
  | _ :: _, [], σ, S, P, _, _, hl, _ => by simp at hl
  | a :: as, xs :: xss, σ, S, P, hn, hnd, hl, hp => by
    obtain ⟨h1, h2, h3⟩ := hn a List.mem_cons_self
    have S1 : SX X g env ρ (σ.put a (.list xs)) h := S.own_put (hp 0 a xs rfl rfl) h2 h3
    have P1 : Stp env σ (σ.put a (.list xs)) h₀ h := ⟨P.keep, P.dom, fun b c e => by
      by_cases hb : b = a
      · subst hb; exact .inr h1
      · rw [Sig.put_ne _ _ hb] at e; exact P.sig b c e⟩
    have P2 : Stp env (σ.put a (.list xs)) (σ.put a (.list xs)) h₀ h := ⟨fun b o e q1 q2 q3 => P.keep b o e q1 (by
      by_cases hb : b = a
      · subst hb; rw [h1] at e; cases e
      · rw [Sig.put_ne _ _ hb] at q2; exact q2) q3, P.dom, fun b c e => .inl ⟨c, e⟩⟩
    obtain ⟨S3, P3⟩ := own_all (as := as) (xss := xss) S1 P2 (fun b hb => hn b (List.mem_cons_of_mem _ hb)) (List.nodup_cons.mp hnd).2 (by simpa using hl) fun i b ys e1 e2 => hp (i + 1) b ys (by simpa using e1) (by simpa using e2)
    refine ⟨S3, ⟨P.keep, P.dom, fun b c e => ?_⟩⟩
    rcases P3.sig b c e with ⟨c', hc⟩ | hc
    · exact P1.sig b c' hc
    · exact .inr hc

theorem X1.assignGrid {n : Nat} (hA : Rm n A) {elt iter : Expr} {x y : Str} {px py : Pos} {ifs : List Expr} {scope : Scope} {cl : List (Str × Addr)} {cpos pos : Pos} {ρc : Rho} {Q : AF → Rho → Sig → Prop} (O : CompOK env ρ scope cl x ρc)
    (H : Itr X A g env ρ σ iter (CompQ X A g env σ scope cl x ρc ifs elt (fun rs => ∃ xss : List (List D), rs = xss.map .new ∧ ∀ a σ', Grid σ' a xss → (∀ b c, σ b = some c → σ' b = some c) → Q .nxt ((y, .val (.ref a)) :: ρ) σ')))
    (ho : stOk env y = true := by rfl)
    (hsw : swapsWith (.ListComp elt [⟨.Name x px, iter, ifs, 0⟩] scope cpos) (some (.Name y py)) pos.line env = pure true := by rfl)
    (hs : ∀ x, foldedSetIterable iter env x = pure x := by intro _; rfl) : X1 X A g env ρ σ (.Assign [.Name y py] (.ListComp elt [⟨.Name x px, iter, ifs, 0⟩] scope cpos) pos) Q := fun s S => by
  rw [exec_Assign_Name_used _ _ _ _ hsw]
  refine wpAny_bind (wpAny_standAt (wpAny_bind ?_))
  show wpAny _ A (do let _ ← comprehension (.ListComp elt [⟨.Name x px, iter, ifs, 0⟩] scope cpos) scope env _ (newList []) false (eval iter env) (some (PySem.assign (.Name y py) env))) _ _ s
  refine wpAny_bind (wpAny_mono (comp_core (use := some (PySem.assign (.Name y py) env)) (QQ := fun _ s' => PX X g env σ s Q .next s') hA S O (H s S) (fun h₃ h' tk D C rs vs ⟨xss, e, q⟩ F => ?_) hs) (fun _ s' hq => wpAny_pure (wpAny_pure hq)) fun _ _ e => e)
  subst e
  obtain ⟨m, hm⟩ := F.ns
  obtain ⟨c, hc⟩ := F.list
  obtain ⟨as, rfl, a1, a2, a3, a4⟩ := F.acc.refs
  have hfr : ∀ a ∈ as, s.heap.get? a = none ∧ g.get? a = none ∧ a ≠ env.locals := fun a ha => by
    have h1 := F.h3 a (a3 a ha)
    exact ⟨h1, S.keep.none h1, (S.freshA h1).1⟩
  have hDa : D ∉ as := fun hm => by obtain ⟨o, ho⟩ := F.hD; rw [a3 D hm] at ho; cases ho
  have hCa : C ∉ as := fun hm => by obtain ⟨o, ho⟩ := F.hC; rw [a3 C hm] at ho; cases ho
  obtain ⟨S1, P1⟩ := own_all (as := as) (xss := xss) (S.ext F.ext) (.of_ext F.ext) hfr a1 a2 a4
  have hvs : ∀ bs : List Addr, Vs h' (bs.map fun b => .val (.ref b)) (bs.map .ref) := fun bs => by
    induction bs with
    | nil => exact .nil
    | cons b bs ih => exact .cons (by simp [V]) ih
  have hgD := S.keep.none F.dnew
  obtain ⟨hDL, hDσ, _⟩ := S.freshA F.dnew
  have S2 : SX X g env ρ ((putAll as xss σ).put D (.list (as.map fun b => .val (.ref b)))) h' := S1.own_put ⟨_, ⟨c, hc⟩, by simpa using hvs as⟩ hgD hDL
  have P2 : Stp env σ ((putAll as xss σ).put D (.list (as.map fun b => .val (.ref b)))) s.heap h' := ⟨P1.keep, P1.dom, fun b cc e => by
      by_cases hb : b = D
      · subst hb; exact .inr F.dnew
      · rw [Sig.put_ne _ _ hb] at e; exact P1.sig b cc e⟩
  refine storeUse S S2 P2 (d := .val (.ref D)) (by simp [V]) ho hm F.cnew ?_ (q D _ (.of_putAll a1 hDa a2) fun b cc e => ?_)
  · rw [Sig.put_ne _ _ (Ne.symm F.ne), putAll_not hCa]; exact (S.fresh F.cnew).1
  · have hbD : b ≠ D := by rintro rfl; rw [hDσ] at e; cases e
    have hba : b ∉ as := fun hm => by rw [(S.fresh (hfr b hm).1).1] at e; cases e
    rw [Sig.put_ne _ _ hbD, putAll_not hba]; exact e

/-- a name of a list, as the list -/
theorem Ev.asL {e : Expr} {Q : Res → Prop} (H : Ev X A g env ρ σ e (fun r => ∃ a xs, r = .d (.val (.ref a)) ∧ (σ a = some (.list xs) ∨ LI g a xs) ∧ Q (.lst xs))) : Ev X A g env ρ σ e Q := fun s S => by
  refine Mine.use (H s S) S fun v r h1 tk1 S1 x1 y1 ⟨a, xs, e1, hx, q⟩ => ?_
  subst e1
  simp only [VR, V] at y1
  subst y1
  refine .mk (.lst xs) x1 ⟨a, rfl, ?_⟩ q
  rcases hx with hx | hx
  · exact PL.li (S1.own a _ hx).1
  · exact hx.ext S1.keep
end
end Mine

namespace Mine
open PySem PySem.W PySem.Calls PyProof.Rows

structure ItOKT (X : Cx) (A : Around) (env : Env) (σ : Sig) (h₀ h : Heap) (it : Value) (dss : List (List D)) : Prop where
  ok : ∃ I fp wr Pt St Mid, it = .ref I ∧ WalksT X.prog X.w A I fp wr dss.length Pt St Mid ∧ St 0 h ∧
    (∀ b ∈ wr, h₀.get? b = none) ∧
    (∀ b ∈ fp, b ≠ env.locals ∧ σ b = none ∧ ∀ x, env.cells.lookup x ≠ some b) ∧
    (∀ i h', St i h' → ∀ b ∈ fp, ∃ o, h'.get? b = some o ∧ (b ∈ wr → ∀ items, ¬ IsTup h' b items)) ∧
    (∀ (i : Nat) vals ds, dss[i]? = some ds → Pt i vals → Vs h ds vals.toList)
def ItAtT (X : Cx) (A : Around) (env : Env) (σ : Sig) (iter : Expr) (s : Shared) (Q : List (List D) → Prop) : Prop :=
  wpAny (model X.prog X.w) A (eval iter env) (fun xv s₁ => wpAny (model X.prog X.w) A (pyIter xv) (fun it s₂ => ∃ ds h₂ tk, s₂ = { s with heap := h₂, toks := tk } ∧ Ext s.heap h₂ ∧ ItOKT X A env σ s.heap h₂ it ds ∧ Q ds) NoE s₁) NoE s
def ItrT (X : Cx) (A : Around) (g : Heap) (env : Env) (ρ : Rho) (σ : Sig) (iter : Expr) (Q : List (List D) → Prop) : Prop := ∀ s, SX X g env ρ σ s.heap → ItAtT X A env σ iter s Q
def ForQ2 (X : Cx) (A : Around) (g : Heap) (env : Env) (ρ : Rho) (σ : Sig) (names : List (Str × Pos)) (body : List Stmt) (Q : AF → Rho → Sig → Prop) (dss : List (List D)) : Prop :=
  (∀ ds ∈ dss, ds.length = names.length) ∧
  ∃ I : Nat → Rho → Sig → Prop, I 0 ρ σ ∧
      (∀ i ds ρ' σ', dss[i]? = some ds → I i ρ' σ' → Xs X A g env (bindAll names ds ρ') σ' body (fun f ρ'' σ'' => match f with
        | .nxt => I (i + 1) ρ'' σ'' | .cont => I (i + 1) ρ'' σ'' | .brk => Q .nxt ρ'' σ'' | .ret r => Q (.ret r) ρ'' σ'')) ∧
      (∀ ρ' σ', I dss.length ρ' σ' → Q .nxt ρ' σ')

section
variable {X : Cx} {A : Around} {g : Heap} {env : Env} {ρ : Rho} {σ : Sig} {E : Value → Shared → Prop}

theorem for2_at {elts : List Expr} {k : Nat} {tpos pos : Pos} {iter : Expr} {body : List Stmt} {Q : AF → Rho → Sig → Prop} {s : Shared} (names : List (Str × Pos)) (hh : A.handled = none) (S : SX X g env ρ σ s.heap)
    (H : ItAtT X A env σ iter s (ForQ2 X A g env ρ σ names body Q))
    (he : assignEach elts env = names.map (fun n => (false, PySem.assign (.Name n.1 n.2) env)))
    (ho : ∀ x ∈ names, stOk env x.1 = true) (hs : ∀ x, foldedSetIterable iter env x = pure x) : wpAny (model X.prog X.w) A (exec (.For (.Tuple elts k tpos) iter body [] pos) env) (PX X g env σ s Q) NoE s := by
  refine wpAny_For ?_ hs
  refine wpAny_mono H (fun xv s₁ h₁ => wpAny_mono h₁ (fun it s₂ h₂ => ?_) fun _ _ f => f.elim) fun _ _ f => f.elim
  obtain ⟨dss, h₂, tk₂, rfl, x2, ⟨I, fp, wr, Pt, Sq, Mid, rfl, W, hst, hnew, hfp, hex, hv⟩, hlen, J, hJ0, turn, done⟩ := h₂
  have hstar : (names.map (fun n => (false, PySem.assign (.Name n.1 n.2) env))).findIdx? (·.1) = none := by
    rw [List.findIdx?_eq_none_iff]
    intro x hx
    obtain ⟨n, _, rfl⟩ := List.mem_map.mp hx
    rfl
  have hmap : (names.map (fun n => (false, PySem.assign (.Name n.1 n.2) env))).map (·.2) = names.map fun n => PySem.assign (.Name n.1 n.2) env := by simp
  have hwr : ∀ b ∈ wr, g.get? b = none ∧ b ≠ env.locals ∧ σ b = none ∧ ∀ x, env.cells.lookup x ≠ some b := fun b hb =>
    ⟨S.keep.none (hnew b hb), (hfp b (W.sub b hb)).1, (hfp b (W.sub b hb)).2.1, (hfp b (W.sub b hb)).2.2⟩
  have hbase : ∀ b ∈ fp, ∃ o, h₂.get? b = some o := fun b hb => let ⟨o, e, _⟩ := hex 0 h₂ hst b hb; ⟨o, e⟩
  refine codeAny_forLoop_any (R := fun r s' => match r with | .ok f => PX X g env σ s Q f s' | .error e => cameBackBy (model X.prog X.w) A env NoE e s')
    (fun n s' => ∃ i ρ' σ' h' tk, n = dss.length + 1 - i ∧ i ≤ dss.length ∧ s' = { s with heap := h', toks := tk } ∧ SX X g env ρ' σ' h' ∧ StW wr env σ σ' h₂ h' ∧ Sq i h' ∧ TG h₂ h' ∧ J i ρ' σ') ?_ (dss.length + 1)
    ⟨0, ρ, σ, h₂, tk₂, rfl, Nat.zero_le _, rfl, S.ext x2, ⟨fun b o _ e _ _ _ => e, fun b o e => ⟨o, e⟩, fun b c e => .inl ⟨c, e⟩⟩, hst, .refl _, hJ0⟩
  rintro n s' ⟨i, ρ', σ', h', tk, rfl, hi, rfl, S', P', hst', tg', hJ⟩
  have hσfp : ∀ b ∈ fp, σ' b = none := fun b hb => by
    cases e : σ' b with
    | none => rfl
    | some c =>
      rcases P'.sig b c e with ⟨c', hc⟩ | hc
      · rw [(hfp b hb).2.1] at hc; cases hc
      · obtain ⟨o, e'⟩ := hbase b hb; rw [hc] at e'; cases e'
  have hnext : ∀ h'' : Heap, (∀ b o, b ∉ wr → h'.get? b = some o → h''.get? b = some o) → (∀ b ∈ wr, ∃ o, h''.get? b = some o) → SX X g env ρ' σ' h'' ∧ StW wr env σ σ' h₂ h'' ∧ TG h₂ h'' := fun h'' hk hw => by
    have S'' : SX X g env ρ' σ' h'' := St.iter S' (wr := wr) (fun b hb => ⟨(hwr b hb).1, (hwr b hb).2.1, hσfp b (W.sub b hb), (hwr b hb).2.2.2, let ⟨o, _, q⟩ := hex i h' hst' b (W.sub b hb); q hb⟩) hk
    refine ⟨S'', ⟨fun b o hb e h1 h2 h3 => hk b o hb (P'.keep b o hb e h1 h2 h3), fun b o e => ?_, P'.sig⟩, fun a items t => ?_⟩
    · obtain ⟨o', e'⟩ := P'.dom b o e
      by_cases hb : b ∈ wr
      · exact hw b hb
      · exact ⟨o', hk b o' hb e'⟩
    · have t' := tg' a items t
      obtain ⟨o, ho, r⟩ := id t'
      refine ⟨o, hk a o (fun hb => ?_) ho, r⟩
      obtain ⟨_, _, q⟩ := hex i h' hst' a (W.sub a hb)
      exact q hb _ t'
  have fin : ∀ (af : AF) ρ'' σ'' h'' tk'' f, SX X g env ρ'' σ'' h'' → StW wr env σ σ'' h₂ h'' → FR g h'' af f → Q af ρ'' σ'' → PX X g env σ s Q f { s with heap := h'', toks := tk'' } := fun af ρ'' σ'' h'' tk'' f S'' P'' hf q =>
    .mk (h' := h'') (tk := tk'') af ρ'' σ'' S'' ⟨fun b o e h1 h2 h3 => P''.keep b o (fun hb => by rw [hnew b hb] at e; cases e) (x2 b o e) h1 h2 h3, fun b o e => P''.dom b o (x2 b o e), fun b c e => (P''.sig b c e).imp id x2.none⟩ hf q
  by_cases hlt : i < dss.length
  · refine wpAny_mono (Q := fun r s₁ => ∃ T vals h₁ tk₁, r = some (.ref T) ∧ s₁ = { s with heap := h₁, toks := tk₁ } ∧ Pt i vals ∧ h₁.IsTuple T vals ∧ Mid i T h₁ ∧ (∀ b o, b ∉ wr → h'.get? b = some o → h₁.get? b = some o)) (E := NoE)
      (W.item i { s with heap := h', toks := tk } _ _ hlt hst' fun T vals h₁ tk₁ hP _ hT hM hk₁ => ⟨T, vals, h₁, tk₁, rfl, rfl, hP, hT, hM, hk₁⟩) ?_ fun _ _ f => f.elim
    rintro r s₁ ⟨T, vals, h₁, tk₁, rfl, rfl, hP, hT, hM, hk₁⟩
    have hd : dss[i]? = some dss[i] := List.getElem?_eq_getElem hlt
    have hdm : dss[i] ∈ dss := List.getElem_mem hlt
    generalize dss[i] = ds at hd hdm
    refine W.go elts k tpos i T { s with heap := h₁, toks := tk₁ } _ _ hM fun h₃ hst₃ hk₃ => ?_
    have hTw := W.apart i T h₁ hM
    have hT₃ : h₃.IsTuple T vals := let ⟨o, e, r⟩ := hT; ⟨o, hk₃ T o hTw e, r⟩
    have hk13 : ∀ b o, b ∉ wr → h'.get? b = some o → h₃.get? b = some o := fun b o hb e => hk₃ b o hb (hk₁ b o hb e)
    obtain ⟨S₃, P₃, tg₃⟩ := hnext h₃ hk13 fun b hb => let ⟨o, e, _⟩ := hex _ h₃ hst₃ b (W.sub b hb); ⟨o, e⟩
    have hvs : Vs h₃ ds vals.toList := (hv i vals ds hd hP).mono tg₃
    have hz : names.length = vals.size := by rw [← hlen ds hdm, hvs.length]; simp
    refine wpAny_assign_Tuple (s := { s with heap := h₃, toks := tk₁ }) hh hT₃ (by rw [he, List.length_map, hz]) (by rw [he]; exact hstar) fun h₄ hx₄ => ?_
    have x4 : Ext h₃ h₄ := fun b o e => hx₄ b o (pushed_ne e) e
    rw [he, hmap]
    refine assignNames (X := X) (g := g) (σ := σ') names ds vals.toList ρ' { s with heap := h₄, toks := tk₁ } ho (hvs.mono x4.tg) (hlen ds hdm).symm (S₃.ext x4) fun h₅ tk₅ S₅ P₅ => ?_
    have P35 : Stp env σ' σ' h₃ h₅ := (Stp.of_ext x4).trans P₅
    have P₅' := P₃.stp P35
    refine wpAny_mono (turn i _ ρ' σ' hd hJ _ S₅) ?_ fun _ _ f => f.elim
    rintro f s₄ ⟨af, ρ₄, σ₄, h₆, tk₄, rfl, S₄, P₄, hf, q⟩
    have P₄' := P₅'.stp P₄
    have hfr : ∀ b ∈ fp, ∀ o, h₃.get? b = some o → h₆.get? b = some o := fun b hb o e =>
      P₄.keep b o (P35.keep b o e (hfp b hb).1 (hσfp b hb) (hfp b hb).2.2) (hfp b hb).1 (hσfp b hb) (hfp b hb).2.2
    have again : J (i + 1) ρ₄ σ₄ → ∃ m, m < dss.length + 1 - i ∧ ∃ i ρ' σ' h' tk, m = dss.length + 1 - i ∧ i ≤ dss.length ∧ ({ s with heap := h₆, toks := tk₄ } : Shared) = { s with heap := h', toks := tk } ∧ SX X g env ρ' σ' h' ∧ StW wr env σ σ' h₂ h' ∧ Sq i h' ∧ TG h₂ h' ∧ J i ρ' σ' := fun hj =>
      ⟨dss.length + 1 - (i + 1), by omega, i + 1, ρ₄, σ₄, h₆, tk₄, rfl, hlt, rfl, S₄, P₄', W.frame _ _ _ hst₃ hfr, tg₃.trans ((Stp.tg S₃ P35).trans (Stp.tg S₅ P₄)), hj⟩
    cases af with
    | nxt => simp only [FR] at hf; subst hf; exact again q
    | cont => simp only [FR] at hf; subst hf; exact again q
    | brk => simp only [FR] at hf; subst hf; exact fin .nxt _ _ _ _ _ S₄ P₄' rfl q
    | ret r => obtain ⟨u, rfl, hu⟩ := hf; exact fin (.ret r) _ _ _ _ _ S₄ P₄' ⟨u, rfl, hu⟩ q
  · have hel : i = dss.length := by omega
    subst hel
    refine W.done _ _ _ hst' fun h₁ tk₁ hk₁ => ?_
    have S₁ : SX X g env ρ' σ' h₁ := St.iter S' (wr := wr) (fun b hb => ⟨(hwr b hb).1, (hwr b hb).2.1, hσfp b (W.sub b hb), (hwr b hb).2.2.2, let ⟨o, _, q⟩ := hex _ h' hst' b (W.sub b hb); q hb⟩) hk₁
    have nw : ∀ b o, s.heap.get? b = some o → b ∉ wr := fun b o e hb => by rw [hnew b hb] at e; cases e
    refine wpAny_execs_nil (.mk (h' := h₁) (tk := tk₁) .nxt _ _ S₁ ⟨fun b o e q1 q2 q3 => hk₁ b o (nw b o e) (P'.keep b o (nw b o e) (x2 b o e) q1 q2 q3), fun b o e => ?_, fun b c e => (P'.sig b c e).imp id x2.none⟩ rfl (done _ _ hJ))
    obtain ⟨o', e'⟩ := P'.dom b o (x2 b o e)
    exact ⟨o', hk₁ b o' (nw b o e) e'⟩
theorem X1.for2 {n : Nat} (hA : Rm n A) {elts : List Expr} {k : Nat} {tpos pos : Pos} {iter : Expr} {body : List Stmt} {Q : AF → Rho → Sig → Prop} (names : List (Str × Pos))
    (H : ItrT X A g env ρ σ iter (ForQ2 X A g env ρ σ names body Q))
    (he : assignEach elts env = names.map (fun n => (false, PySem.assign (.Name n.1 n.2) env)) := by rfl)
    (ho : ∀ x ∈ names, stOk env x.1 = true := by decide) (hs : ∀ x, foldedSetIterable iter env x = pure x := by intro _; rfl) : X1 X A g env ρ σ (.For (.Tuple elts k tpos) iter body [] pos) Q := fun s S =>
  for2_at names hA.handled S (H s S) he ho hs
end

/-! enumerate -/
/-- an iterator within -/
structure Inn (prog : Program) (w : World) (it : Addr) (fp : List Addr) (items : Array Value) (St : Nat → Heap → Prop) : Prop where
  mem : it ∈ fp
  frame : ∀ i h h', St i h → (∀ b ∈ fp, ∀ o, h.get? b = some o → h'.get? b = some o) → St i h'
  item : ∀ (A : Around) i x (s : Shared) (Q : Value → Shared → Prop) (E : Value → Shared → Prop), items[i]? = some x → St i s.heap → (∀ h', St (i + 1) h' → Heap.SameBut it s.heap h' → Q x { s with heap := h' }) → wpAny (model prog w) A (Builtin.SmallTypes.nextOf (.ref it)) Q E s
  done : ∀ (A : Around) i (s : Shared) (Q : Value → Shared → Prop) (E : Value → Shared → Prop), A.handled = none → items[i]? = none → St i s.heap → (∀ h' e, Heap.ExtBut it s.heap h' → (∃ o, h'.get? e = some o ∧ o.cls = .type "StopIteration") → E (.ref e) { s with heap := h' }) → wpAny (model prog w) A (Builtin.SmallTypes.nextOf (.ref it)) Q E s
  ex : ∀ i h, St i h → ∀ b ∈ fp, ∃ o, h.get? b = some o
  it : ∀ i h, St i h → ∀ its, ¬ IsTup h it its
theorem Inn.list (prog : Program) (w : World) (it l : Addr) (hne : l ≠ it) (items : Array Value) : Inn prog w it [it, l] items (fun i h => h.IsListIter it l i ∧ h.IsList l items) where
  mem := List.mem_cons_self
  frame := fun i h h' ⟨a, b⟩ hk => ⟨a.at fun o x => hk it (by simp) o x, b.at fun o x => hk l (by simp) o x⟩
  item := fun A i x s Q E hx ⟨a, b⟩ hQ => wpAny_nextOf_list_item a b hx fun h' a' hs => hQ h' ⟨a', b.at fun o x => hs.extBut l o hne x⟩ hs
  done := fun A i s Q E hh hx ⟨a, b⟩ hE => wpAny_nextOf_list_end hh a b hx hE
  ex := fun i h ⟨⟨o, ho, _⟩, ⟨o2, ho2, _⟩⟩ b hb => by
    rcases List.mem_cons.mp hb with rfl | hb
    · exact ⟨o, ho⟩
    · rw [List.mem_singleton.mp hb]; exact ⟨o2, ho2⟩
  it := fun i h ⟨⟨o, ho, hc, _⟩, _⟩ its ⟨o', ho', hc', _⟩ => by rw [ho] at ho'; cases ho'; rw [hc] at hc'; simp at hc'

section
variable {prog : Program} {w : World} {A : Around} {E : Value → Shared → Prop} {s : Shared}
theorem nextOf_tuple_item {it l : Addr} {i : Nat} {items} {x : Value} {Q : Value → Shared → Prop} (hit : s.heap.IsTupleIter it l i)
    (hl : s.heap.IsTuple l items) (hx : items[i]? = some x)
    (hQ : ∀ h', h'.IsTupleIter it l (i + 1) → Heap.SameBut it s.heap h' → Q x { s with heap := h' }) :
    wpAny (model prog w) A (Builtin.SmallTypes.nextOf (.ref it)) Q E s := by
  obtain ⟨o, ho, hc, hd⟩ := id hit
  obtain ⟨ol, hol, _, nl, hdl⟩ := hl
  unfold Builtin.SmallTypes.nextOf
  refine wpAny_bind (wpAny_callSpecial?_slot (name := Str.ofString "__next__") hit.typeIs F.slot_tuple_iterator_next
    (wpAny_call_entry F.slot_tuple_iterator_next hit.typeIs F.entry_tuple_iterator_next ?_ (F.args_tuple_iterator_next_1 _)))
  show wpAny _ _ (field (.ref it) 0 >>= _) _ _ s
  refine wpAny_bind (wpAny_field ho hd (x := .ref l) rfl ?_)
  show wpAny _ _ (if (Value.ref l == Value.none) = true then _ else _) _ _ s
  rw [if_neg (show ¬ ((Value.ref l == Value.none) = true) from Bool.false_ne_true)]
  show wpAny _ _ (field (.ref it) 1 >>= _) _ _ s
  refine wpAny_bind (wpAny_field ho hd (x := .int i 0) rfl ?_)
  show wpAny _ _ (seqItems? (.ref l) >>= _) _ _ s
  refine wpAny_bind (wpAny_seqItems hol hdl ?_)
  simp only [Int.toNat_natCast, hx]
  refine wpAny_bind (wpAny_setField ho hd (by simp) (wpAny_pure ⟨x, rfl, wpAny_pure (hQ _ ?_ (Heap.SameBut.update ..))⟩))
  exact ⟨_, Heap.get?_update_self _ ho (Obj.isFreed_of_fields (Obj.data_mapFields hd _)), (Obj.cls_mapFields ..).trans hc, by
    rw [Obj.data_mapFields hd]; simp [rawInt]⟩
theorem nextOf_tuple_end {it l : Addr} {i : Nat} {items} {Q : Value → Shared → Prop} (hh : A.handled = none)
    (hit : s.heap.IsTupleIter it l i) (hl : s.heap.IsTuple l items) (hx : items[i]? = none)
    (hE : ∀ h' e, Heap.ExtBut it s.heap h' → (∃ o, h'.get? e = some o ∧ o.cls = .type "StopIteration") → E (.ref e) { s with heap := h' }) :
    wpAny (model prog w) A (Builtin.SmallTypes.nextOf (.ref it)) Q E s := by
  obtain ⟨o, ho, hc, hd⟩ := id hit
  obtain ⟨ol, hol, _, nl, hdl⟩ := hl
  unfold Builtin.SmallTypes.nextOf
  refine wpAny_bind (wpAny_callSpecial?_slot (name := Str.ofString "__next__") hit.typeIs F.slot_tuple_iterator_next
    (wpAny_call_entry F.slot_tuple_iterator_next hit.typeIs F.entry_tuple_iterator_next ?_ (F.args_tuple_iterator_next_1 _)))
  show wpAny _ _ (field (.ref it) 0 >>= _) _ _ s
  refine wpAny_bind (wpAny_field ho hd (x := .ref l) rfl ?_)
  show wpAny _ _ (if (Value.ref l == Value.none) = true then _ else _) _ _ s
  rw [if_neg (show ¬ ((Value.ref l == Value.none) = true) from Bool.false_ne_true)]
  show wpAny _ _ (field (.ref it) 1 >>= _) _ _ s
  refine wpAny_bind (wpAny_field ho hd (x := .int i 0) rfl ?_)
  show wpAny _ _ (seqItems? (.ref l) >>= _) _ _ s
  refine wpAny_bind (wpAny_seqItems hol hdl ?_)
  simp only [Int.toNat_natCast, hx]
  refine wpAny_bind (wpAny_rule (wpAny_bind (wpAny_setField ho hd (by simp) ?_)))
  show wpAny _ _ (newExc (.type "StopIteration") [] >>= _) _ _ _
  refine wpAny_bind ?_
  simp only [newExc, newTuple]
  refine wpAny_bind (wpAny_newObj_type ?_ (by size_fits))
  refine wpAny_bind (m := firstArgMember _ _) (wpAny_of_eq (a := Value.none) (by first | rfl | (simp only [firstArgMember]; rfl)) ?_)
  refine wpAny_newObj_type ?_ (by size_fits)
  simp only [raiseNew]
  refine wpAny_bind (wpAny_handled ?_)
  first | rw [show A.in1.handled = none from hh] | rw [hh]
  refine wpAny_bind (wpAny_pure (wpAny_throw ?_))
  exact hE _ _ (((Heap.SameBut.update ..).extBut.push _).push _) ⟨_, Heap.get?_push_size _ rfl, rfl⟩
end
theorem Inn.tuple (prog : Program) (w : World) (it l : Addr) (hne : l ≠ it) (items : Array Value) : Inn prog w it [it, l] items (fun i h => h.IsTupleIter it l i ∧ h.IsTuple l items) where
  mem := List.mem_cons_self
  frame := fun i h h' ⟨⟨o, ho, r⟩, ⟨o2, ho2, r2⟩⟩ hk => ⟨⟨o, hk it (by simp) o ho, r⟩, ⟨o2, hk l (by simp) o2 ho2, r2⟩⟩
  item := fun A i x s Q E hx ⟨a, ⟨o2, ho2, r2⟩⟩ hQ => nextOf_tuple_item a ⟨o2, ho2, r2⟩ hx fun h' a' hs => hQ h' ⟨a', ⟨o2, hs.extBut l o2 hne ho2, r2⟩⟩ hs
  done := fun A i s Q E hh hx ⟨a, b⟩ hE => nextOf_tuple_end hh a b hx hE
  ex := fun i h ⟨⟨o, ho, _⟩, ⟨o2, ho2, _⟩⟩ b hb => by
    rcases List.mem_cons.mp hb with rfl | hb
    · exact ⟨o, ho⟩
    · rw [List.mem_singleton.mp hb]; exact ⟨o2, ho2⟩
  it := fun i h ⟨⟨o, ho, hc, _⟩, _⟩ its ⟨o', ho', hc', _⟩ => by rw [ho] at ho'; cases ho'; rw [hc] at hc'; simp at hc'
end Mine

namespace Mine
open PySem PySem.W PySem.Calls PyProof.Rows

section
variable {prog : Program} {w : World} {A : Around} {E : Value → Shared → Prop} {s : Shared}

theorem enum_next_item {e it : Addr} {fp : List Addr} {items : Array Value} {St : Nat → Heap → Prop} (N : Inn prog w it fp items St) {i : Nat} {j : Int} {x old : Value} {Q : Value → Shared → Prop}
    (he : IsEnum s.heap e it j old) (hst : St i s.heap) (hx : items[i]? = some x) (hef : e ∉ fp)
    (hQ : ∀ h' t, IsEnumOut h' e it (j + 1) x s.heap.objs.size → St (i + 1) h' →
      h'.get? s.heap.objs.size = some { cls := .type "tuple", data := .seq #[.int j t, x] } →
      (∀ b o, b ≠ e → b ≠ it → s.heap.get? b = some o → h'.get? b = some o) → Q (.ref s.heap.objs.size) { s with heap := h', toks := s.toks + 1 }) :
    wpAny (model prog w) A (Builtin.«enumerate.__next__» ⟨[.ref e], []⟩) (fun fin s' => ∃ v, fin = .done (.ret v) ∧ Q v s') E s := by
  have hne : e ≠ it := fun q => hef (q ▸ N.mem)
  obtain ⟨hp, g, d, tk, os⟩ := s
  show wpAny _ _ (field (.ref e) 2 >>= _) _ _ _
  refine wpAny_bind (wpAny_field he rfl (x := .ref it) rfl ?_)
  refine wpAny_bind (N.item _ i x _ _ _ hx hst fun h₁ hst₁ hs₁ => ?_)
  replace hs₁ : Heap.SameBut it hp h₁ := hs₁
  have he₁ : IsEnum h₁ e it j old := (hs₁.2 e hne).trans he
  show wpAny _ _ (field (.ref e) 3 >>= _) _ _ ⟨h₁, g, d, tk, os⟩
  refine wpAny_bind (wpAny_field he₁ rfl (x := rawInt j) rfl ?_)
  show wpAny _ _ (field (.ref e) 4 >>= _) _ _ ⟨h₁, g, d, tk, os⟩
  refine wpAny_bind (wpAny_field he₁ rfl (x := .none) rfl ?_)
  show wpAny _ _ (mkInt j >>= _) _ _ ⟨h₁, g, d, tk, os⟩
  refine wpAny_bind (wpAny_mkInt ?_)
  show wpAny _ _ (setField (.ref e) 3 (rawInt (j + 1)) >>= _) _ _ ⟨h₁, g, d, tk + 1, os⟩
  refine wpAny_bind (wpAny_setField_rec he₁ (by simp) fun h₂ he₂ hs₂ => ?_)
  replace hs₂ : Heap.SameBut e h₁ h₂ := hs₂
  replace he₂ : IsEnum h₂ e it (j + 1) old := he₂
  show wpAny _ _ (setField (.ref e) 4 .none >>= _) _ _ ⟨h₂, g, d, tk + 1, os⟩
  refine wpAny_bind (wpAny_setField_rec he₂ (by simp) fun h₃ he₃ hs₃ => ?_)
  replace hs₃ : Heap.SameBut e h₂ h₃ := hs₃
  replace he₃ : IsEnum h₃ e it (j + 1) old := he₃
  show wpAny _ _ (newTuple [.int j tk, x] >>= _) _ _ ⟨h₃, g, d, tk + 1, os⟩
  refine wpAny_bind (wpAny_newTuple ?_)
  have he₄ : IsEnum (h₃.push { cls := .type "tuple", data := .seq #[.int j tk, x] }) e it (j + 1) old := Heap.get?_push_of_some _ he₃
  generalize hh₄ : h₃.push { cls := .type "tuple", data := .seq #[.int j tk, x] } = h₄ at he₄
  have hsz : h₃.objs.size = hp.objs.size := by rw [hs₃.1, hs₂.1, hs₁.1]
  have hel : e < hp.objs.size := Heap.lt_size he
  have ht₄ : h₄.get? hp.objs.size = some { cls := .type "tuple", data := .seq #[.int j tk, x] } := by rw [← hh₄, ← hsz]; exact Heap.get?_push_size _ rfl
  have hk₄ : ∀ b o, b ≠ e → b ≠ it → hp.get? b = some o → h₄.get? b = some o := fun b o hbe hbi hb => by
    rw [← hh₄]; exact Heap.get?_push_of_some _ (hs₃.extBut b o hbe (hs₂.extBut b o hbe (hs₁.extBut b o hbi hb)))
  have hst₄ : St (i + 1) h₄ := N.frame _ _ _ hst₁ fun b hb o ho => by
    have hbe : b ≠ e := fun q => hef (q ▸ hb)
    rw [← hh₄]; exact Heap.get?_push_of_some _ (hs₃.extBut b o hbe (hs₂.extBut b o hbe ho))
  show wpAny _ _ (Builtin.SmallTypes.ownedTupleIsFree (.ref e) >>= _) _ _ ⟨h₄, g, d, tk + 1, os⟩
  rw [hsz]
  clear hh₄ he₃ hs₃ he₂ hs₂ he₁ hs₁ hst₁ hsz h₃ h₂ h₁
  refine wpAny_bind ?_
  · unfold Builtin.SmallTypes.ownedTupleIsFree
    refine wpAny_bind (wpAny_field he₄ rfl (x := .none) rfl (wpAny_pure ?_))
    simp only [if_true]
    refine wpAny_bind (wpAny_rule ?_)
    refine wpAny_bind (wpAny_field he₄ rfl (x := old) rfl ?_)
    refine wpAny_bind (wpAny_setField_rec he₄ (by simp) fun h₅ he₅ hs₅ => ?_)
    replace hs₅ : Heap.SameBut e h₄ h₅ := hs₅
    replace he₅ : IsEnum h₅ e it (j + 1) x := he₅
    show wpAny _ _ (Builtin.SmallTypes.ownedTupleHandOut (.ref e) (.ref hp.objs.size) >>= _) _ _ ⟨h₅, g, d, tk + 1, os⟩
    refine wpAny_bind ?_
    · unfold Builtin.SmallTypes.ownedTupleHandOut
      refine wpAny_bind (wpAny_setField_rec he₅ (by simp) fun h₆ he₆ hs₆ => ?_)
      replace hs₆ : Heap.SameBut e h₅ h₆ := hs₆
      replace he₆ : IsEnumOut h₆ e it (j + 1) x hp.objs.size := he₆
      refine wpAny_setField_rec he₆ (by simp) fun h₇ he₇ hs₇ => ?_
      replace hs₇ : Heap.SameBut e h₆ h₇ := hs₇
      replace he₇ : IsEnumOut h₇ e it (j + 1) x hp.objs.size := he₇
      refine wpAny_bind (wpAny_letGo (wpAny_pure ⟨_, rfl, hQ h₇ tk he₇ ?_ ?_ ?_⟩))
      · exact N.frame _ _ _ hst₄ fun b hb o ho => by
          have hbe : b ≠ e := fun q => hef (q ▸ hb)
          exact hs₇.extBut b o hbe (hs₆.extBut b o hbe (hs₅.extBut b o hbe ho))
      · exact hs₇.extBut _ _ (Nat.ne_of_gt hel) (hs₆.extBut _ _ (Nat.ne_of_gt hel) (hs₅.extBut _ _ (Nat.ne_of_gt hel) ht₄))
      · exact fun b o hbe hbi hb => hs₇.extBut b o hbe (hs₆.extBut b o hbe (hs₅.extBut b o hbe (hk₄ b o hbe hbi hb)))

theorem walksEnum (hh : A.handled = none) {e it : Addr} {fp : List Addr} {items : Array Value} {St : Nat → Heap → Prop} (N : Inn prog w it fp items St) (hef : e ∉ fp) (k : Int) :
    WalksT prog w A e (e :: fp) [e, it] items.size
      (fun i vals => ∃ t x, items[i]? = some x ∧ vals = #[.int (k + i) t, x])
      (fun i h => (∃ old, IsEnum h e it (k + i) old) ∧ St i h)
      (fun i T h => (∃ x, IsEnumOut h e it (k + i + 1) x T) ∧ St (i + 1) h ∧ T ≠ e ∧ T ≠ it) where
  sub := fun b hb => by
    rcases List.mem_cons.mp hb with rfl | hb
    · exact List.mem_cons_self ..
    · rw [List.mem_singleton.mp hb]; exact List.mem_cons_of_mem _ N.mem
  frame := fun i h h' ⟨⟨old, he⟩, hst⟩ hk => ⟨⟨old, hk e (by simp) _ he⟩, N.frame i h h' hst fun b hb o ho => hk b (List.mem_cons_of_mem _ hb) o ho⟩
  item := fun i s Q E hi ⟨⟨old, he⟩, hst⟩ hQ => by
    have hx : items[i]? = some items[i] := Array.getElem?_eq_getElem hi
    have hT : s.TypeIs (.ref e) "enumerate" := ⟨_, he, rfl⟩
    have helt : e < s.heap.objs.size := Heap.lt_size he
    have hilt : it < s.heap.objs.size := by obtain ⟨_, x⟩ := N.ex i _ hst it N.mem; exact Heap.lt_size x
    unfold pyNext
    refine wpAny_bind (wpAny_attempt (wpAny_callSpecial?_slot (name := Str.ofString "__next__") hT F.slot_enumerate_next
      (wpAny_call_entry F.slot_enumerate_next hT F.entry_enumerate_next
        (enum_next_item N he hst hx hef fun h' t ho hst' hT hk => wpAny_pure (hQ s.heap.objs.size #[.int (k + i) t, items[i]] h' (s.toks + 1) ⟨t, _, hx, rfl⟩ (Nat.le_refl _) ⟨_, hT, rfl, _, rfl⟩
      ⟨⟨_, ho⟩, hst', Nat.ne_of_gt helt, Nat.ne_of_gt hilt⟩
      fun b o hb x => hk b o (fun e' => hb (by simp [e'])) (fun e' => hb (by simp [e'])) x)) (F.args_enumerate_next_1 _))))
  go := fun elts kk pos i T s Q E ⟨⟨x, ho⟩, hst, hTe, hTi⟩ hQ => by
    refine wpAny_letOwnedTupleGo_enum ho fun h' he' hs' => hQ h' ⟨⟨x, ?_⟩, N.frame _ _ _ hst fun b hb o ho => (hs'.2 b fun q => hef (q ▸ hb)).trans ho⟩ fun b o hb y => ?_
    · have : k + ((i + 1 : Nat) : Int) = k + i + 1 := by push_cast; omega
      rw [this]; exact he'
    · exact (hs'.2 b fun e' => hb (by simp [e'])).trans y
  apart := fun i T h ⟨_, _, hTe, hTi⟩ hT => by
    rcases List.mem_cons.mp hT with rfl | hT
    · exact hTe rfl
    · rcases List.mem_cons.mp hT with rfl | hT
      · exact hTi rfl
      · cases hT
  done := fun s Q E ⟨⟨old, he⟩, hst⟩ hQ => by
    have hT : s.TypeIs (.ref e) "enumerate" := ⟨_, he, rfl⟩
    unfold pyNext
    refine wpAny_bind (wpAny_attempt (wpAny_callSpecial?_slot (name := Str.ofString "__next__") hT F.slot_enumerate_next
      (wpAny_call_entry F.slot_enumerate_next hT F.entry_enumerate_next ?_ (F.args_enumerate_next_1 _))))
    show wpAny _ _ (field (.ref e) 2 >>= _) _ _ _
    refine wpAny_bind (wpAny_field he rfl (x := .ref it) rfl ?_)
    refine wpAny_bind (N.done _ _ _ _ _ hh (Array.getElem?_eq_none (Nat.le_refl _)) hst fun h' x he' hx' => ?_)
    obtain ⟨o, ho, hc⟩ := hx'
    refine wpAny_bind (wpAny_isInstance (T := "StopIteration") (b := true) ⟨o, ho, hc⟩ isSubtype_stop ?_)
    exact wpAny_pure (hQ h' s.toks fun b o hb y => he' b o (fun e' => hb (by simp [e'])) y)
  self := fun i s Q E ⟨⟨old, he⟩, _⟩ hQ => wpAny_pyIter_enum he hQ
end
end Mine

namespace Mine
open PySem PySem.W PySem.Calls PyProof.Rows
open AutoSeq1 (wpAny_loadPart')

section
variable {prog : Program} {w : World} {A : Around} {E : Value → Shared → Prop} {s : Shared}

theorem callType_meetsK {T newId initId : String} {Bn Bi : Builtin} {args : List Value} {kw : List (Str × Value)} {S : PySem.Spec} {Q Q₁ : Value → Shared → Prop} (ft : TypeCalled T newId initId)
    (hct : checkTypeCall T ⟨args, kw⟩ = pure ()) (hcn : checkBuiltinCall newId ⟨.type T :: args, kw⟩ = pure ())
    (entryN : entryFor table newId = some Bn) (entryI : entryFor table initId = some Bi) (g : Meets (Bn ⟨.type T :: args, kw⟩) S)
    (h : S A.in1 (wants Q₁ E) s)
    (hnext : ∀ obj s₁, Q₁ obj s₁ → s₁.TypeIs obj T ∧ argsOk initId ⟨obj :: args, kw⟩ ∧ ∃ Si, Meets (Bi ⟨obj :: args, kw⟩) Si ∧ Si A.in1 (wants (fun r s₂ => r = .none ∧ Q obj s₂) E) s₁) :
    wpAny (model prog w) A (call (.type T) args kw) Q E s := by
  obtain ⟨c, tl, hmro⟩ := ft.mro
  have hmade := ft.made
  have hsub := ft.sub
  refine wpAny_call (codeAny_of_tree ?_)
  show wpAny _ _ (callAny (.type T) _) _ _ _
  refine wpAny_pure ⟨Code.quiet_builtin _ (by decide +kernel), codeAny_builtin F.entry_type_call ?_⟩
  rw [Around.under_plain (weight_type_call_type T args kw) (units_type_call_type T args kw)]
  have h1 := ft.notType
  have h2 := ft.canCreate
  repeat (any_goals (first | assumption | wp_step))
  refine codeAny_mono (codeAny_call_builtin ft.plain entryN (wpAny_of_eq hcn (g prog w A.in1 _ s h))) fun r s₁ hr => ?_
  cases r with
  | error e => exact hr
  | ok fl =>
    cases fl with
    | ret obj =>
      obtain ⟨hT, hok, Si, gi, hsi⟩ := hnext _ _ hr
      have hli := ft.init.lookup
      have hbi := ft.init.bind obj
      repeat (any_goals (first | assumption | wp_step))
      refine codeAny_mono (codeAny_call_builtin ft.init.plain entryI (ft.init.check _ _ _ _ _ _ _ _ hT hok (gi prog w A.in1 _ s₁ hsi))) fun r₂ s₂ hr₂ => ?_
      cases r₂ with
      | error e => exact hr₂
      | ok fl₂ =>
        cases fl₂ with
        | ret r =>
          obtain ⟨rfl, hq⟩ := hr₂
          repeat (any_goals (first | assumption | wp_step))
        | _ => exact hr₂.elim
    | _ => exact hr.elim

theorem object_init_meetsK {T newId : String} {self : Value} {rest : List Value} {kw : List (Str × Value)} (hl : typeLookup (.type T) "__init__" = pure (some (.builtin "object.__init__")))
    (hm : Bind.madeBy (.type T) = pure (some newId)) (hne : (some newId != some "object.__new__") = true) :
    Meets (Builtin.«object.__init__» ⟨self :: rest, kw⟩) (fun _ R s => s.TypeIs self T ∧ R (.ok (.ret .none)) s) := by
  refine Meets.of_wp fun prog w A R s hs => ?_
  obtain ⟨hT, hq⟩ := hs
  cases rest with
  | nil =>
    cases kw with
    | nil => exact wpAny_pure ⟨_, rfl, hq⟩
    | cons b kw =>
      repeat (any_goals (first | assumption | wp_step))
      exact ⟨_, rfl, hq⟩
  | cons a rest =>
    repeat (any_goals (first | assumption | wp_step))
    exact ⟨_, rfl, hq⟩
abbrev startKw (k : Int) (t : Tok) : List (Str × Value) := [("start", .int k t)]
theorem call_enum {src : Value} {kw : List (Str × Value)} {S : PySem.Spec} {Q : Value → Shared → Prop} (hct : checkTypeCall "enumerate" ⟨[src], kw⟩ = pure ()) (hcn : checkBuiltinCall "enumerate.__new__" ⟨[.type "enumerate", src], kw⟩ = pure ())
    (hok : ∀ obj, argsOk "object.__init__" ⟨[obj, src], kw⟩) (g : Meets (Builtin.«enumerate.__new__» ⟨[.type "enumerate", src], kw⟩) S)
    (h : S A.in1 (wants (fun obj s₁ => s₁.TypeIs obj "enumerate" ∧ Q obj s₁) E) s) : wpAny (model prog w) A (call (.type "enumerate") [src] kw) Q E s :=
  callType_meetsK F.called_enumerate hct hcn F.entry_enumerate_new F.entry_object_init g h fun obj _ hq =>
    ⟨hq.1, hok obj, _, object_init_meetsK F.called_enumerate.init.lookup F.called_enumerate.made (by decide), hq.1, rfl, hq.2⟩

set_option maxHeartbeats 1000000 in
theorem new_enum_T (l : Addr) (items : Array Value) (n : Nat) (dct : Option Addr) (sl : Array (Option Value)) :
    Meets (Builtin.«enumerate.__new__» ⟨[.type "enumerate", .ref l], []⟩) (fun _ R s => s.heap.get? l = some { cls := .type "tuple", dict := dct, data := .seq items n, slots := sl } ∧
      R (.ok (.ret (.ref (s.heap.push { cls := .type "tuple_iterator", data := .fields #[.ref l, .int 0 0] }).objs.size)))
        { s with heap := (s.heap.push { cls := .type "tuple_iterator", data := .fields #[.ref l, .int 0 0] }).push { cls := .type "enumerate", data := .fields #[.none, .bool false, .ref s.heap.objs.size, rawInt 0, .none, .none] } }) :=
  .of_wp fun prog w A R s h => by
    obtain ⟨hp, g, d, tk, os⟩ := s; obtain ⟨hl, h⟩ := h
    have hsub := sub_enumerate
    have hL : Heap.IsTuple (Shared.heap ⟨hp, g, d, tk, os⟩) l items := ⟨_, hl, rfl, n, rfl⟩
    wp_walk using wpAny_loadPart' hl
    refine wpAny_stack_any fun st => wpAny_pure ?_
    split
    · rename_i c _ _ _ _ _
      cases (c == Value.type "enumerate")
      · wp_walk using wpAny_loadPart' hl, wpAny_pyIter_tuple hL
        exact ⟨_, rfl, h⟩
      · wp_walk using wpAny_loadPart' hl, wpAny_pyIter_tuple hL
        exact ⟨_, rfl, h⟩
    · wp_walk using wpAny_loadPart' hl, wpAny_pyIter_tuple hL
      exact ⟨_, rfl, h⟩
set_option maxHeartbeats 1000000 in
theorem new_enum_L1 (l : Addr) (items : Array Value) (n : Nat) (dct : Option Addr) (sl : Array (Option Value)) (t : Tok) :
    Meets (Builtin.«enumerate.__new__» ⟨[.type "enumerate", .ref l], startKw 1 t⟩) (fun _ R s => s.heap.get? l = some { cls := .type "list", dict := dct, data := .seq items n, slots := sl } ∧
      R (.ok (.ret (.ref (s.heap.push { cls := .type "list_iterator", data := .fields #[.ref l, .int 0 0] }).objs.size)))
        { s with heap := (s.heap.push { cls := .type "list_iterator", data := .fields #[.ref l, .int 0 0] }).push { cls := .type "enumerate", data := .fields #[.none, .bool false, .ref s.heap.objs.size, rawInt 1, .none, .none] } }) :=
  .of_wp fun prog w A R s h => by
    obtain ⟨hp, g, d, tk, os⟩ := s; obtain ⟨hl, h⟩ := h
    have hsub := sub_enumerate
    have hL : Heap.IsList (Shared.heap ⟨hp, g, d, tk, os⟩) l items := ⟨_, hl, rfl, n, rfl⟩
    wp_walk using wpAny_loadPart' hl
    refine wpAny_stack_any fun st => wpAny_pure ?_
    split
    · rename_i c _ _ _ _ _
      cases (c == Value.type "enumerate")
      · wp_walk using wpAny_loadPart' hl, wpAny_pyIter_list hL
        exact ⟨_, rfl, h⟩
      · wp_walk using wpAny_loadPart' hl, wpAny_pyIter_list hL
        exact ⟨_, rfl, h⟩
    · wp_walk using wpAny_loadPart' hl, wpAny_pyIter_list hL
      exact ⟨_, rfl, h⟩
set_option maxHeartbeats 1000000 in
theorem new_enum_T1 (l : Addr) (items : Array Value) (n : Nat) (dct : Option Addr) (sl : Array (Option Value)) (t : Tok) :
    Meets (Builtin.«enumerate.__new__» ⟨[.type "enumerate", .ref l], startKw 1 t⟩) (fun _ R s => s.heap.get? l = some { cls := .type "tuple", dict := dct, data := .seq items n, slots := sl } ∧
      R (.ok (.ret (.ref (s.heap.push { cls := .type "tuple_iterator", data := .fields #[.ref l, .int 0 0] }).objs.size)))
        { s with heap := (s.heap.push { cls := .type "tuple_iterator", data := .fields #[.ref l, .int 0 0] }).push { cls := .type "enumerate", data := .fields #[.none, .bool false, .ref s.heap.objs.size, rawInt 1, .none, .none] } }) :=
  .of_wp fun prog w A R s h => by
    obtain ⟨hp, g, d, tk, os⟩ := s; obtain ⟨hl, h⟩ := h
    have hsub := sub_enumerate
    have hL : Heap.IsTuple (Shared.heap ⟨hp, g, d, tk, os⟩) l items := ⟨_, hl, rfl, n, rfl⟩
    wp_walk using wpAny_loadPart' hl
    refine wpAny_stack_any fun st => wpAny_pure ?_
    split
    · rename_i c _ _ _ _ _
      cases (c == Value.type "enumerate")
      · wp_walk using wpAny_loadPart' hl, wpAny_pyIter_tuple hL
        exact ⟨_, rfl, h⟩
      · wp_walk using wpAny_loadPart' hl, wpAny_pyIter_tuple hL
        exact ⟨_, rfl, h⟩
    · wp_walk using wpAny_loadPart' hl, wpAny_pyIter_tuple hL
      exact ⟨_, rfl, h⟩
end
end Mine

namespace Mine
open PySem PySem.W PySem.Calls PyProof.Rows

theorem tc_enum_kw (a : Value) (t : Tok) : checkTypeCall "enumerate" ⟨[a], startKw 1 t⟩ = pure () := by kernel_rfl
theorem nc_enum_kw (a : Value) (t : Tok) : checkBuiltinCall "enumerate.__new__" ⟨[.type "enumerate", a], startKw 1 t⟩ = pure () := by kernel_rfl
theorem ok_enum_kw (a obj : Value) (t : Tok) : argsOk "object.__init__" ⟨[obj, a], startKw 1 t⟩ := by unfold argsOk; kernel_rfl

/-- a row: a tuple, or a list that stands -/
def SeqD (g : Heap) (d : D) (xs : List D) : Prop := d = .tup xs ∨ ∃ a, d = .val (.ref a) ∧ LI g a xs
def enumD (k : Int) (xs : List D) : List (List D) := xs.zipIdx.map fun p => [.int (k + (p.2 : Nat)), p.1]
theorem enumD_length (k : Int) (xs : List D) : (enumD k xs).length = xs.length := by simp [enumD]
theorem enumD_get {k : Int} {xs : List D} {i : Nat} {ds : List D} (h : (enumD k xs)[i]? = some ds) : ∃ d, xs[i]? = some d ∧ ds = [.int (k + i), d] := by
  simp only [enumD, List.getElem?_map, List.getElem?_zipIdx, Option.map_eq_some_iff] at h
  obtain ⟨p, ⟨d, hd, rfl⟩, rfl⟩ := h
  exact ⟨d, hd, by simp⟩
theorem enumD_two {k : Int} {xs : List D} {ds : List D} (h : ds ∈ enumD k xs) : ds.length = 2 := by
  simp only [enumD, List.mem_map] at h
  obtain ⟨p, _, rfl⟩ := h; rfl

section
variable {X : Cx} {A : Around} {g : Heap} {env : Env} {ρ : Rho} {σ : Sig} {E : Value → Shared → Prop}

theorem seq_cases {h : Heap} {d : D} {ds : List D} {v : Value} (S : SX X g env ρ σ h) (hd : SeqD g d ds) (hv : V h d v) :
    ∃ a items, v = .ref a ∧ Vs h ds items.toList ∧ a ≠ env.locals ∧ σ a = none ∧ (∀ x, env.cells.lookup x ≠ some a) ∧ (IsTup h a items ∨ h.IsList a items) := by
  rcases hd with rfl | ⟨a, rfl, hl⟩
  · simp only [V] at hv
    obtain ⟨a, items, rfl, ht, hvs⟩ := hv
    obtain ⟨h1, h2, h3⟩ := S.tupA ht
    exact ⟨a, items, rfl, hvs, h1, h2, h3, .inl ht⟩
  · simp only [V] at hv
    subst hv
    obtain ⟨items, hi, hvs⟩ := hl.ext S.keep
    obtain ⟨h1, h3⟩ := S.listA hi
    refine ⟨a, items, rfl, hvs, h1, ?_, h3, .inr hi⟩
    cases e : σ a with
    | none => rfl
    | some c =>
      have := (S.own a c e).2.1
      obtain ⟨_, ⟨o, ho, _⟩, _⟩ := hl
      rw [this] at ho; cases ho

theorem itOKT_enum (hh : A.handled = none) {h₀ h h' : Heap} (S : SX X g env ρ σ h₀) (x : Ext h₀ h) {a : Addr} {items : Array Value} {ds : List D} {ty : String} {St : Nat → Heap → Prop} (hty : ty ≠ "tuple") (k : Int)
    (ha : a ≠ env.locals) (hσ : σ a = none) (hc : ∀ x, env.cells.lookup x ≠ some a) (hlt : ∃ o, h.get? a = some o) (hv : Vs h ds items.toList)
    (N : Inn X.prog X.w h.objs.size [h.objs.size, a] items St)
    (e1 : h' = (h.push { cls := .type ty, data := .fields #[.ref a, .int 0 0] }).push { cls := .type "enumerate", data := .fields #[.none, .bool false, .ref h.objs.size, rawInt k, .none, .none] }) (hst : St 0 h') :
    ItOKT X A env σ h₀ h' (.ref (h.push { cls := .type ty, data := .fields #[.ref a, .int 0 0] }).objs.size) (enumD k ds) := by
  have hsz : (h.push { cls := .type ty, data := .fields #[.ref a, .int 0 0] }).objs.size = h.objs.size + 1 := Heap.size_push ..
  have hn : h.get? h.objs.size = none := Heap.get?_none_of_le (Nat.le_refl _)
  have hn2 : h.get? (h.push { cls := .type ty, data := .fields #[.ref a, .int 0 0] }).objs.size = none := Heap.get?_none_of_le (by rw [hsz]; exact Nat.le_succ _)
  obtain ⟨o, ho⟩ := hlt
  have hea : (h.push { cls := .type ty, data := .fields #[.ref a, .int 0 0] }).objs.size ≠ a := fun q => by rw [q, ho] at hn2; cases hn2
  have hef : (h.push { cls := .type ty, data := .fields #[.ref a, .int 0 0] }).objs.size ∉ [h.objs.size, a] := by
    intro hm
    rcases List.mem_cons.mp hm with q | hm
    · rw [hsz] at q; exact absurd q (Nat.ne_of_gt (Nat.lt_succ_self _))
    · exact hea (List.mem_singleton.mp hm)
  have hz : items.size = (enumD k ds).length := by rw [enumD_length, hv.length]; simp
  have W := walksEnum (A := A) hh N hef k
  rw [hz] at W
  have xt : Ext h h' := by rw [e1]; exact (Ext.push _ _).trans (Ext.push _ _)
  have he : IsEnum h' (h.push { cls := .type ty, data := .fields #[.ref a, .int 0 0] }).objs.size h.objs.size (k + ((0 : Nat) : Int)) .none := by
    rw [e1, show k + ((0 : Nat) : Int) = k by simp]
    exact Heap.get?_push_size _ rfl
  refine ⟨_, _, _, _, _, _, rfl, W, ⟨⟨.none, he⟩, hst⟩, ?_, ?_, ?_, ?_⟩
  · intro b hb
    rcases List.mem_cons.mp hb with rfl | hb
    · exact x.none hn2
    · rw [List.mem_singleton.mp hb]; exact x.none hn
  · intro b hb
    rcases List.mem_cons.mp hb with rfl | hb
    · exact S.freshA (x.none hn2)
    · rcases List.mem_cons.mp hb with rfl | hb
      · exact S.freshA (x.none hn)
      · rw [List.mem_singleton.mp hb]; exact ⟨ha, hσ, hc⟩
  · rintro i h2 ⟨⟨old, he2⟩, hst2⟩ b hb
    rcases List.mem_cons.mp hb with rfl | hb
    · refine ⟨_, he2, fun _ its t => ?_⟩
      obtain ⟨o', ho', hc', _⟩ := t
      rw [he2] at ho'; cases ho'; simp at hc'
    · obtain ⟨o2, ho2⟩ := N.ex i h2 hst2 b hb
      refine ⟨o2, ho2, fun hw => ?_⟩
      rcases List.mem_cons.mp hw with rfl | hw
      · exact absurd hb hef
      · rw [List.mem_singleton.mp hw]; exact N.it i h2 hst2
  · rintro i vals dd hd ⟨t, y, hy, rfl⟩
    obtain ⟨d, hd1, rfl⟩ := enumD_get hd
    obtain ⟨v', hv', hV⟩ := hv.get i d hd1
    rw [← Array.getElem?_toList, hv'] at hy
    cases hy
    exact .cons (by simp [V]) (.cons (hV.mono xt.tg) .nil)

theorem enum_make {h₀ : Heap} {s : Shared} {d : D} {v : Value} {ds : List D} (hh : A.handled = none) (S : SX X g env ρ σ h₀) (x : Ext h₀ s.heap) (S1 : SX X g env ρ σ s.heap) (hd : SeqD g d ds) (hv : V s.heap d v) :
    wpAny (model X.prog X.w) A (call (.type "enumerate") [v]) (fun xv s₁ => wpAny (model X.prog X.w) A (pyIter xv) (fun it s₂ => ∃ h₂ tk, s₂ = { s with heap := h₂, toks := tk } ∧ Ext h₀ h₂ ∧ ItOKT X A env σ h₀ h₂ it (enumD 0 ds)) NoE s₁) NoE s ∧
    ∀ t, wpAny (model X.prog X.w) A (call (.type "enumerate") [v] (startKw 1 t)) (fun xv s₁ => wpAny (model X.prog X.w) A (pyIter xv) (fun it s₂ => ∃ h₂ tk, s₂ = { s with heap := h₂, toks := tk } ∧ Ext h₀ h₂ ∧ ItOKT X A env σ h₀ h₂ it (enumD 1 ds)) NoE s₁) NoE s := by
  obtain ⟨a, items, rfl, hvs, h1, h2, h3, hsrc⟩ := seq_cases S1 hd hv
  have hx : ∀ ty k, Ext h₀ ((s.heap.push { cls := .type ty, data := .fields #[.ref a, .int 0 0] }).push { cls := .type "enumerate", data := .fields #[.none, .bool false, .ref s.heap.objs.size, rawInt k, .none, .none] }) := fun ty k =>
    x.trans ((Ext.push _ _).trans (Ext.push _ _))
  have hE : ∀ ty k, IsEnum ((s.heap.push { cls := .type ty, data := .fields #[.ref a, .int 0 0] }).push { cls := .type "enumerate", data := .fields #[.none, .bool false, .ref s.heap.objs.size, rawInt k, .none, .none] }) (s.heap.push { cls := .type ty, data := .fields #[.ref a, .int 0 0] }).objs.size s.heap.objs.size k .none := fun ty k =>
    Heap.get?_push_size _ rfl
  have hI : ∀ ty k, ((s.heap.push { cls := .type ty, data := .fields #[.ref a, .int 0 0] }).push { cls := .type "enumerate", data := .fields #[.none, .bool false, .ref s.heap.objs.size, rawInt k, .none, .none] }).get? s.heap.objs.size = some { cls := .type ty, data := .fields #[.ref a, .int 0 0] } := fun ty k =>
    Heap.get?_push_of_some _ (Heap.get?_push_size _ rfl)
  rcases hsrc with ht | hl
  · obtain ⟨⟨cls, dd, data, sl⟩, ho, hc, n, hdt⟩ := id ht
    simp only at hc hdt
    subst hc hdt
    have hne : a ≠ s.heap.objs.size := pushed_ne ho
    have fin : ∀ k, ItOKT X A env σ h₀ _ (.ref (s.heap.push { cls := .type "tuple_iterator", data := .fields #[.ref a, .int 0 0] }).objs.size) (enumD k ds) := fun k =>
      itOKT_enum hh S x (by decide) k h1 h2 h3 ⟨_, ho⟩ hvs (.tuple _ _ _ _ hne items) rfl ⟨⟨_, hI "tuple_iterator" k, rfl, rfl⟩, _, Heap.get?_push_of_some _ (Heap.get?_push_of_some _ ho), rfl, n, rfl⟩
    constructor
    · refine call_enum (F.typeCall_enumerate_1 _) (F.newCall_enumerate_1 _) (fun obj => F.args_object_init_2 obj _) (new_enum_T a items n dd sl) ⟨ho, ⟨_, hE _ _, rfl⟩, ?_⟩
      exact wpAny_pyIter_enum (hE "tuple_iterator" 0) ⟨_, s.toks, rfl, hx _ _, fin 0⟩
    · intro t
      refine call_enum (tc_enum_kw _ _) (nc_enum_kw _ _) (fun obj => ok_enum_kw _ obj _) (new_enum_T1 a items n dd sl t) ⟨ho, ⟨_, hE _ _, rfl⟩, ?_⟩
      exact wpAny_pyIter_enum (hE "tuple_iterator" 1) ⟨_, s.toks, rfl, hx _ _, fin 1⟩
  · obtain ⟨⟨cls, dd, data, sl⟩, ho, hc, n, hdt⟩ := id hl
    simp only at hc hdt
    subst hc hdt
    have hne : a ≠ s.heap.objs.size := pushed_ne ho
    have fin : ∀ k, ItOKT X A env σ h₀ _ (.ref (s.heap.push { cls := .type "list_iterator", data := .fields #[.ref a, .int 0 0] }).objs.size) (enumD k ds) := fun k =>
      itOKT_enum hh S x (by decide) k h1 h2 h3 ⟨_, ho⟩ hvs (.list _ _ _ _ hne items) rfl ⟨⟨_, hI "list_iterator" k, rfl, rfl⟩, _, Heap.get?_push_of_some _ (Heap.get?_push_of_some _ ho), rfl, n, rfl⟩
    constructor
    · refine call_enum (F.typeCall_enumerate_1 _) (F.newCall_enumerate_1 _) (fun obj => F.args_object_init_2 obj _) (meets_enumerate_newL a items n dd sl) ⟨ho, ⟨_, hE _ _, rfl⟩, ?_⟩
      exact wpAny_pyIter_enum (hE "list_iterator" 0) ⟨_, s.toks, rfl, hx _ _, fin 0⟩
    · intro t
      refine call_enum (tc_enum_kw _ _) (nc_enum_kw _ _) (fun obj => ok_enum_kw _ obj _) (new_enum_L1 a items n dd sl t) ⟨ho, ⟨_, hE _ _, rfl⟩, ?_⟩
      exact wpAny_pyIter_enum (hE "list_iterator" 1) ⟨_, s.toks, rfl, hx _ _, fin 1⟩

theorem callWith_typeK {M : Model} {s : Shared} {pos : Pos} {T : String} {args : List (Bool × Sem Value)} {keywords : List (Option Str × Sem Value)} {Q : Value → Shared → Prop}
    (hplain : args.any (·.1) = false) (hkw : keywords.any (·.1.isNone) = false)
    (h : wpAny M A (evalArgs (.type T) true args keywords) (fun a s₁ => wpAny M A (call (.type T) a.pos a.kw) Q E s₁) E s) :
    wpAny M A (callWith pos (.type T) [] args keywords) Q E s := by
  unfold callWith
  refine wpAny_bind (wpAny_holding (wpAny_mono h (fun a s₁ h₁ => wpAny_bind (wpAny_standAt ?_)) fun _ _ x => x))
  simp only [hplain, hkw, Bool.or_false]
  refine wpAny_bind (wpAny_pure ?_)
  exact wpAny_bind (wpAny_mono h₁ (fun r s₂ hr => wpAny_bind (wpAny_holding (wpAny_point (wpAny_pure hr)))) fun _ _ x => x)

theorem ItrT.enum0 {n : Nat} (hA : Rm n A) {f : Str} {x : Str} {p px pos : Pos} {d : D} {ds : List D} {Q : List (List D) → Prop} (hg : X.mg f = none) (hb : X.mb f = some (.type "enumerate"))
    (hl : ρ.lookup x = some d) (hd : SeqD g d ds) (q : Q (enumD 0 ds)) (hv : varOk env x = true := by rfl) (hk : env.kindOf f = some .globalImplicit := by rfl) (hdb : (f == ("__debug__" : Str)) = false := by decide) :
    ItrT X A g env ρ σ (.Call (.Name f p) [.Name x px] [] pos) Q := fun s S => by
  have HE : Es X A g env ρ σ [.Name x px] (fun rs => rs = [.d d]) := Es.cons (Ev.name d hl hv (Es.nil rfl)) rfl
  refine callT_raw hg hb HE S (fun vs rs h1 tk1 S1 x1 y1 hr => ?_) rfl rfl hk hdb
  subst hr
  obtain ⟨v, ws, rfl, hv1, rfl⟩ := y1
  exact wpAny_mono (enum_make (s := { s with heap := h1, toks := tk1 }) hA.handled S x1 S1 hd hv1).1 (fun xv s₁ h => wpAny_mono h (fun it s₂ ⟨h₂, tk, e, x2, ok⟩ => ⟨_, h₂, tk, e, x2, ok, q⟩) fun _ _ f => f) fun _ _ f => f
theorem ItrT.enum1 {n : Nat} (hA : Rm n A) {f : Str} {x : Str} {p px pos pk pc : Pos} {kc : Nat} {d : D} {ds : List D} {Q : List (List D) → Prop} (hg : X.mg f = none) (hb : X.mb f = some (.type "enumerate"))
    (hl : ρ.lookup x = some d) (hd : SeqD g d ds) (q : Q (enumD 1 ds)) (hv : varOk env x = true := by rfl) (hk : env.kindOf f = some .globalImplicit := by rfl) (hdb : (f == ("__debug__" : Str)) = false := by decide) :
    ItrT X A g env ρ σ (.Call (.Name f p) [.Name x px] [⟨some "start", .Constant (.int 1) kc pc, pk⟩] pos) Q := fun s S => by
  have H0 : Ev X A g env ρ σ (.Name f p) (fun r => r = .d (.val (.type "enumerate"))) := Ev.builtin _ hg hb rfl hk hdb
  show wpAny _ A (do callWith pos (← eval (.Name f p) env) [] (backTo pos (starEach [.Name x px] env)) (backToKw pos (keywordEach [⟨some "start", .Constant (.int 1) kc pc, pk⟩] env))) _ _ s
  refine wpAny_bind (Mine.use (H0 s S) S fun v r h0 tk0 S0 x0 y0 e0 => ?_)
  subst e0
  simp only [VR, V] at y0
  subst y0
  have HN : Ev X A g env ρ σ (.Name x px) (fun r => r = .d d) := Ev.name d hl hv rfl
  refine callWith_typeK rfl rfl (evalArgs_kwB rfl ?_)
  refine spliced_cons (Mine.use (HN _ S0) S0 fun v r h1 tk1 S1 x1 y1 e1 => spliced_nil ?_)
  subst e1
  refine kws_cons (wpAny_Constant_int (kws_nil ?_))
  exact wpAny_mono ((enum_make (s := { s with heap := h1, toks := tk1 + 1 }) hA.handled S (x0.trans x1) S1 hd y1).2 tk1) (fun xv s₁ h => wpAny_mono h (fun it s₂ ⟨h₂, tk, e, x2, ok⟩ => ⟨_, h₂, tk, e, x2, ok, q⟩) fun _ _ f => f) fun _ _ f => f
end
end Mine

namespace Mine
open PySem PySem.W PySem.Calls PyProof.Rows

structure Nm (X : Cx) : Prop where
  len : X.mg "len" = none ∧ X.mb "len" = some (.builtin "len")
  min : X.mg "min" = none ∧ X.mb "min" = some (.builtin "min")
  max : X.mg "max" = none ∧ X.mb "max" = some (.builtin "max")
  range : X.mg "range" = none ∧ X.mb "range" = some (.type "range")
  enumerate : X.mg "enumerate" = none ∧ X.mb "enumerate" = some (.type "enumerate")
  int : X.mg "int" = none ∧ X.mb "int" = some (.type "int")

def Kp (ρ₀ ρ : Rho) : Prop := ∀ p ∈ ρ₀, ρ.lookup p.1 = some p.2
theorem Kp.cons {ρ₀ ρ : Rho} {x : Str} {d : D} (h : Kp ρ₀ ρ) (hx : ρ₀.all (fun p => p.1 != x) = true) : Kp ((x, d) :: ρ₀) ((x, d) :: ρ) := fun p hp => by
  rcases List.mem_cons.mp hp with rfl | hp
  · rw [List.lookup_cons, beq_self_eq_true]
  · have := List.all_eq_true.mp hx p hp
    rw [List.lookup_cons, show (p.1 == x) = false by simpa using this]
    exact h p hp
theorem Kp.skip {ρ₀ ρ : Rho} {x : Str} {d : D} (h : Kp ρ₀ ρ) (hx : ρ₀.all (fun p => p.1 != x) = true) : Kp ρ₀ ((x, d) :: ρ) := fun p hp => h.cons (d := d) hx p (List.mem_cons_of_mem _ hp)
theorem Kp.perm2 {ρ₀ ρ : Rho} {p q : Str × D} (h : Kp (p :: q :: ρ₀) ρ) : Kp (q :: p :: ρ₀) ρ := fun r hr => by
  rcases List.mem_cons.mp hr with rfl | hr
  · exact h _ (by simp)
  · rcases List.mem_cons.mp hr with rfl | hr
    · exact h _ (by simp)
    · exact h r (by simp [hr])
theorem Kp.of {ρ₀ ρ : Rho} {p : Str × D} (h : Kp (p :: ρ₀) ρ) : Kp ρ₀ ρ := fun q hq => h q (List.mem_cons_of_mem _ hq)
def ndB : List Str → Bool
  | [] => true
  | x :: xs => !(xs.any (· == x)) && ndB xs
theorem ndB_nodup : ∀ {xs : List Str}, ndB xs = true → xs.Nodup
  | [], _ => List.nodup_nil
  | x :: xs, h => by
    simp only [ndB, Bool.and_eq_true, Bool.not_eq_true', List.any_eq_false, beq_iff_eq] at h
    exact List.nodup_cons.mpr ⟨fun hm => h.1 x hm rfl, ndB_nodup h.2⟩
theorem Kp.refl_nd {ρ : Rho} (h : (ρ.map (·.1)).Nodup) : Kp ρ ρ := fun p hp => by
  induction ρ with
  | nil => cases hp
  | cons q ρ ih =>
    rw [List.map_cons, List.nodup_cons] at h
    rcases List.mem_cons.mp hp with rfl | hp
    · rw [List.lookup_cons, beq_self_eq_true]
    · have : p.1 ≠ q.1 := fun e => h.1 (by rw [← e]; exact List.mem_map.mpr ⟨p, hp, rfl⟩)
      rw [List.lookup_cons, beq_eq_false_iff_ne.mpr this]
      exact ih h.2 hp

theorem Kp.refl_of {ρ : Rho} (h : ndB (ρ.map (·.1)) = true) : Kp ρ ρ := Kp.refl_nd (ndB_nodup h)

def tab (m n : Nat) (G : Nat → Nat → Int) : List (List D) := (List.range m).map fun i => (List.range n).map fun j => D.int (G i j)
theorem tab_row {m n : Nat} {G : Nat → Nat → Int} {i : Nat} (h : i < m) : (tab m n G)[i]? = some ((List.range n).map fun j => D.int (G i j)) := by
  simp [tab, h]
theorem row_at {n : Nat} {f : Nat → Int} {j : Nat} (h : j < n) : ((List.range n).map fun j => D.int (f j))[j]? = some (.int (f j)) := by
  simp [h]
theorem tab_set {m n : Nat} {G : Nat → Nat → Int} {i j : Nat} {v : Int} (hi : i < m) (hj : j < n) : (tab m n G).set i (((List.range n).map fun j => D.int (G i j)).set j (.int v)) = tab m n (fun a b => if a = i ∧ b = j then v else G a b) := by
  apply List.ext_getElem?
  intro a
  by_cases ha : a < m
  · rw [tab_row ha]
    by_cases hai : a = i
    · subst hai
      rw [List.getElem?_set_self (by simpa [tab] using ha)]
      congr 1
      apply List.ext_getElem?
      intro b
      by_cases hb : b < n
      · rw [row_at hb]
        by_cases hbj : b = j
        · subst hbj; rw [List.getElem?_set_self (by simpa using hb)]; simp
        · rw [List.getElem?_set_ne (Ne.symm hbj), row_at hb]; simp [hbj]
      · simp [hb]
    · rw [List.getElem?_set_ne (Ne.symm hai), tab_row ha]
      simp [hai]
  · rw [List.getElem?_eq_none (by simpa [tab] using ha), List.getElem?_eq_none (by simpa [tab] using ha)]

def seqs (one : List (List Int)) : List D := one.map fun x => .tup (x.map .int)
theorem seqs_at {one : List (List Int)} {i : Nat} {x : List Int} (h : one[i]? = some x) : (seqs one)[i]? = some (.tup (x.map .int)) := by simp [seqs, h]
theorem seqs_length (one : List (List Int)) : (seqs one).length = one.length := by simp [seqs]

section
variable {X : Cx} {A : Around} {g : Heap} {env : Env} {ρ : Rho} {σ : Sig} {E : Value → Shared → Prop}

theorem X1.assignD {x : Str} {px pos : Pos} {value : Expr} {Q : AF → Rho → Sig → Prop} (d : D) (H : Ev X A g env ρ σ value (fun r => r = .d d)) (q : Q .nxt ((x, d) :: ρ) σ) (ho : stOk env x = true := by rfl)
    (hs : swapsWith value (some (.Name x px)) pos.line env = pure false := by rfl) : X1 X A g env ρ σ (.Assign [.Name x px] value pos) Q :=
  X1.assign (H.mono fun r hr => ⟨d, hr, q⟩) ho hs
theorem Tr.itemsEq {n : Nat} (hA : Rm n A) {xa xb : Str} {pa pb qa qb pos : Pos} {ia ib : Expr} {a1 a2 : Addr} {one two : List (List Int)} {i j : Nat} {Q : Bool → Prop} (h1 : ρ.lookup xa = some (.val (.ref a1))) (h2 : ρ.lookup xb = some (.val (.ref a2)))
    (l1 : LI g a1 (seqs one)) (l2 : LI g a2 (seqs two)) (e1 : evI env ρ ia = some (i : Int)) (e2 : evI env ρ ib = some (j : Int)) (hi : i < one.length) (hj : j < two.length) (z1 : one.length < 2 ^ 20) (z2 : two.length < 2 ^ 20)
    (q : Q (decide (one[i]? = two[j]?)))
    (o1 : varOk env xa = true := by rfl) (o2 : varOk env xb = true := by rfl)
    (hs1 : ∀ a k u, subscripted ia false (.ref a) (.int k u) = operate [.ref a, .int k u] (getItem (.ref a) (.int k u)) := by intros; with_unfolding_all rfl)
    (hs2 : ∀ a k u, subscripted ib false (.ref a) (.int k u) = operate [.ref a, .int k u] (getItem (.ref a) (.int k u)) := by intros; with_unfolding_all rfl)
    (hm : behindInMarks .Eq (.Subscript (.Name xb pb) ib qb) = false := by with_unfolding_all rfl) :
    Tr X A g env ρ σ (.Compare (.Subscript (.Name xa pa) ia qa) [.Eq] [.Subscript (.Name xb pb) ib qb] pos) Q := by
  have hx : one[i]? = some one[i] := List.getElem?_eq_getElem hi
  have hy : two[j]? = some two[j] := List.getElem?_eq_getElem hj
  refine Tr.cmp (Ev.itemL (Ev.nameL a1 _ h1 o1 (.inr l1) ⟨_, .inl rfl, Ev.int e1 ⟨(i : Int), _, rfl, by omega, by omega, seqs_at (by rw [Int.toNat_natCast]; exact hx), Ev.itemL (Ev.nameL a2 _ h2 o2 (.inr l2) ⟨_, .inl rfl, Ev.int e2 ⟨(j : Int), _, rfl, by omega, by omega, seqs_at (by rw [Int.toNat_natCast]; exact hy), CM.tupEq hA ?_⟩⟩) hs2⟩⟩) hs1) hm
  have : decide (one[i] = two[j]) = decide (one[i]? = two[j]?) := by rw [hx, hy]; simp
  rw [this]; exact q
theorem Ev.gridAt {x : Str} {px p1 p2 : Pos} {i1 i2 : Expr} {a : Addr} {m n i j : Nat} {G : Nat → Nat → Int} {Q : Res → Prop} (hG : Grid σ a (tab m n G)) (hl : ρ.lookup x = some (.val (.ref a)))
    (h1 : evI env ρ i1 = some (i : Int)) (h2 : evI env ρ i2 = some (j : Int)) (hi : i < m) (hj : j < n) (hm : m < 2 ^ 20) (hn : n < 2 ^ 20) (q : Q (.d (.int (G i j))))
    (ho : varOk env x = true := by rfl) (hs1 : ∀ a k u, subscripted i1 false (.ref a) (.int k u) = operate [.ref a, .int k u] (getItem (.ref a) (.int k u)) := by intros; with_unfolding_all rfl)
    (hs2 : ∀ a k u, subscripted i2 false (.ref a) (.int k u) = operate [.ref a, .int k u] (getItem (.ref a) (.int k u)) := by intros; with_unfolding_all rfl) :
    Ev X A g env ρ σ (.Subscript (.Subscript (.Name x px) i1 p1) i2 p2) Q := by
  obtain ⟨b, as, e1, e2, e3, e4, _⟩ := hG.row (tab_row hi)
  refine Ev.itemL (Ev.asL (Ev.itemL (Ev.nameL a _ hl ho (.inl e2) ⟨_, .inl rfl, Ev.int h1 ⟨_, .val (.ref b), rfl, by omega, by omega, ?_, ⟨b, _, rfl, .inl e3, _, .inl rfl, Ev.int h2 ⟨_, _, rfl, by omega, by omega, ?_, q⟩⟩⟩⟩) hs1)) hs2
  · simp [e1]
  · rw [Int.toNat_natCast]; exact row_at hj
theorem X1.gridSet {x : Str} {px p1 p2 pos : Pos} {i1 i2 value : Expr} {a : Addr} {m n i j : Nat} {v : Int} {G : Nat → Nat → Int} {Q : AF → Rho → Sig → Prop} (hG : Grid σ a (tab m n G)) (hl : ρ.lookup x = some (.val (.ref a)))
    (h1 : evI env ρ i1 = some (i : Int)) (h2 : evI env ρ i2 = some (j : Int)) (hv : evI env ρ value = some v) (hi : i < m) (hj : j < n) (hm : m < 2 ^ 20) (hn : n < 2 ^ 20)
    (q : ∀ σ', Grid σ' a (tab m n (fun a b => if a = i ∧ b = j then v else G a b)) → Q .nxt ρ σ')
    (ho : varOk env x = true := by rfl) (hs1 : ∀ a k u, subscripted i1 false (.ref a) (.int k u) = operate [.ref a, .int k u] (getItem (.ref a) (.int k u)) := by intros; with_unfolding_all rfl)
    (hs : swapsWith value (some (.Subscript (.Subscript (.Name x px) i1 p1) i2 p2)) pos.line env = pure false := by rfl) :
    X1 X A g env ρ σ (.Assign [.Subscript (.Subscript (.Name x px) i1 p1) i2 p2] value pos) Q := by
  obtain ⟨b, as, e1, e2, e3, e4, e5⟩ := hG.row (tab_row hi)
  refine X1.setL (Ev.int hv ⟨_, rfl, Ev.itemL (Ev.nameL a _ hl ho (.inl e2) ⟨_, .inl rfl, Ev.int h1 ⟨_, .val (.ref b), rfl, by omega, by omega, ?_, ⟨b, _, rfl, e3, Ev.int h2 ⟨_, rfl, by omega, ?_, ?_, ?_⟩⟩⟩⟩) hs1⟩) hs
  · simp [e1]
  · simp; omega
  · simp; omega
  · rw [Int.toNat_natCast]
    have := e5 (((List.range n).map fun j => D.int (G i j)).set j (.int v))
    rw [tab_set hi hj] at this
    exact q _ this
end
end Mine

namespace Mine
open PySem PySem.W PySem.Calls PyProof.Rows Builtin.ObjectAttr

/-- what stays as the heap grows -/
def Stay (P : Heap → Prop) : Prop := ∀ h h', Ext h h' → P h → P h'
def PR (s : Shared) (Q : Res → Prop) (r : Result) (s' : Shared) : Prop := match r with
  | .ok (.ret v) => PE s Q v s'
  | _ => False
def FnP (X : Cx) (P : Heap → Prop) (n : Nat) (f : Value) (rs : List Res) (kw : List (Str × Value)) (Q : Res → Prop) : Prop := ∀ (A : Around) s vs, Rm n A → GX X s.heap → P s.heap → ARs s.heap rs vs → codeAny (model X.prog X.w) A (.call f ⟨vs, kw⟩) (PR s Q) s
theorem FnP.wp {X : Cx} {P : Heap → Prop} {n : Nat} {f : Value} {rs : List Res} {kw : List (Str × Value)} {Q : Res → Prop} (H : FnP X P n f rs kw Q) (A : Around) (s : Shared) (vs : List Value) (hA : Rm n A) (hg : GX X s.heap) (hp : P s.heap) (ha : ARs s.heap rs vs) :
    wpAny (model X.prog X.w) A (call f vs kw) (PE s Q) NoE s :=
  wpAny_call (codeAny_mono (H A s vs hA hg hp ha) fun r s' h => by
    rcases r with e | (_ | _ | _ | v) <;> first | exact h | exact h.elim)
theorem FnP.mono {X : Cx} {P : Heap → Prop} {n : Nat} {f : Value} {rs : List Res} {kw : List (Str × Value)} {Q Q' : Res → Prop} (H : FnP X P n f rs kw Q) (k : ∀ r, Q r → Q' r) : FnP X P n f rs kw Q' := fun A s vs hA hg hp ha =>
  codeAny_mono (H A s vs hA hg hp ha) fun r s' h => by
    rcases r with e | (_ | _ | _ | v) <;> first
      | exact h.elim
      | (obtain ⟨r, h', tk, e, x, y, z⟩ := h; exact ⟨r, h', tk, e, x, y, k r z⟩)
theorem FnP.pre {X : Cx} {P P' : Heap → Prop} {n m : Nat} {f : Value} {rs : List Res} {kw : List (Str × Value)} {Q : Res → Prop} (H : FnP X P n f rs kw Q) (k : ∀ h, P' h → P h) (hm : n ≤ m) : FnP X P' m f rs kw Q := fun A s vs hA hg hp ha => H A s vs (hA.mono hm) hg (k _ hp) ha
theorem FnP.fn {X : Cx} {n : Nat} {f : Value} {rs : List Res} {Q : Res → Prop} (H : FnP X (fun _ => True) n f rs [] Q) : Fn X n f rs Q := fun A s vs hA hg ha => H.wp A s vs hA hg trivial ha

section
variable {X : Cx} {A : Around} {g : Heap} {env : Env} {ρ : Rho} {σ : Sig} {E : Value → Shared → Prop}

theorem FnP.enter {n : Nat} {f : Addr} {o : Obj} {fd : FuncData} {body : List Stmt} {rs : List Res} {kw : List (Str × Value)} {Q : Res → Prop} {P : Heap → Prop} (xs : List Str) (B : Heap → List D → Prop) (hP : Stay P)
    (hbind : ∀ (A : Around) s vs, GX X s.heap → vs.length = rs.length → ARs s.heap rs vs → wpAny (model X.prog X.w) A (bindArgs fd ⟨vs, kw⟩) (fun binds s' => ∃ us ds h' tk, binds = xs.zip us ∧ s' = { s with heap := h', toks := tk } ∧ Ext s.heap h' ∧ xs.length = us.length ∧ Vs h' ds us ∧ B h' ds) NoE s)
    (ho : X.K.lookup f = some o) (hd : o.data = .func fd) (hbody : fd.body = .stmts body) (hcd : codeIn X.K fd.code fd.qualname = true)
    (hkind : (xs.all fun y => fd.scope.names.lookup y == some .local || fd.scope.names.lookup y == some .cell) = true) (hnd : ndB xs = true)
    (hglob : fd.globals = mainGlobals) (hblt : fd.builtins = builtinsNs) (hclo : fd.closure = [])
    (hco : fd.scope.isCoroutine = false) (hgen : fd.scope.isGenerator = false) (hk : fd.scope.kind = .function)
    (H : ∀ (A : Around) (g : Heap) (L : Addr) (ds : List D), Rm n A → GX X g → P g → B g ds → Xs X A g (envF fd L f) (xs.zip ds) (fun _ => none) body (RetQ Q)) : FnP X P (n + 1) (.ref f) rs kw Q := fun A s vs hA hg hp ha => by
  have hlen := ha.length
  have hkind' : ∀ x ∈ xs, fd.scope.names.lookup x = some .local ∨ fd.scope.names.lookup x = some .cell := fun x hx => by
    have := List.all_eq_true.mp hkind x hx
    simpa using this
  refine codeAny_call_function (by have := hA.depth; omega) (hg.k _ _ ho) hd hco hgen hbody (codeRec_of hg.k hcd) (wpAny_mono (hbind _ s vs hg hlen ha) (fun binds s' ⟨us, ds, h', tk, e1, e2, x0, hxl, hv, hB⟩ => ?_) fun _ _ f => f.elim)
  subst e1 e2
  have hg' : GX X h' := hg.ext x0
  have hmap : (xs.zip us).map (·.1) = xs := by rw [List.map_fst_zip (by omega)]
  rw [hclo]
  refine wpAny_newFunctionEnv_cells (s := { s with heap := h', toks := tk }) hk (fun x hx => ?_) fun env he s₁ x => ?_
  · have hx' : x.1 ∈ xs := by rw [← hmap]; exact List.mem_map.mpr ⟨x, hx, rfl⟩
    rcases hkind' _ hx' with h | h
    · exact .inl h
    · exact .inr ⟨h, cellsFrom_some _ _ _ (.inl h)⟩
  · subst he
    refine ⟨hg'.nolimit.keeps x.toInCall.keep, codeAny_func ?_⟩
    obtain ⟨S, x1, h1, tk1, rfl⟩ := St.entry (X := X) (s := { s with heap := h', toks := tk }) (f := f) hg' hv hxl hglob hblt hk (ndB_nodup hnd) x hkind'
    refine wpAny_mono (H (A.deeper (envF fd h'.objs.size f)) h' h'.objs.size ds hA.deeper hg' (hP _ _ x0 hp) hB _ S) ?_ fun _ _ f => f.elim
    rintro fl s₂ ⟨af, ρ', σ', h2, tk', rfl, S', P', hf, q⟩
    have xe : Ext h' h2 := S'.keep
    cases af with
    | nxt => simp only [FR] at hf; subst hf; exact .mk (.d (.val .none)) (x0.trans xe) (by simp [VR, V]) q
    | brk => exact q.elim
    | cont => exact q.elim
    | ret r => obtain ⟨u, rfl, hu⟩ := hf; exact .mk r (x0.trans xe) (hu.base x0) q

theorem bind_pos {A : Around} {fd : FuncData} {rs : List Res} {xs : List Str} {s : Shared} {vs : List Value} (hb : bindArgs fd ⟨vs, []⟩ = pure (xs.zip vs)) (hl : xs.length = rs.length) (hv : vs.length = rs.length) (ha : ARs s.heap rs vs) :
    wpAny (model X.prog X.w) A (bindArgs fd ⟨vs, []⟩) (fun binds s' => ∃ us ds h' tk, binds = xs.zip us ∧ s' = { s with heap := h', toks := tk } ∧ Ext s.heap h' ∧ xs.length = us.length ∧ Vs h' ds us ∧ ArgsD h' rs ds) NoE s := by
  obtain ⟨ds, h1, h2⟩ := argsD_of ha
  rw [hb]
  exact wpAny_pure ⟨vs, ds, s.heap, s.toks, rfl, rfl, .refl _, by omega, h2, h1⟩
theorem ArgD.ext {h h' : Heap} (x : Ext h h') : ∀ {r : Res} {d : D}, ArgD h r d → ArgD h' r d
  | .d _, _, e => e
  | .lst _, _, ⟨a, e, l⟩ => ⟨a, e, l.ext x⟩
  | .new _, _, ⟨a, e, l⟩ => ⟨a, e, l.ext x⟩
theorem ArgsD.ext {h h' : Heap} (x : Ext h h') : ∀ {rs : List Res} {ds : List D}, ArgsD h rs ds → ArgsD h' rs ds
  | [], _, e => e
  | _ :: _, _, ⟨d, ds, e, a, b⟩ => ⟨d, ds, e, a.ext x, b.ext x⟩
/-- with a starred parameter -/
theorem bind_star {A : Around} {fd : FuncData} {rs : List Res} {xs : List Str} {s : Shared} {vs : List Value} (k : Nat) (hb : bindArgs fd ⟨vs, []⟩ = (do let v ← newTuple (vs.drop k); pure (xs.zip (vs.take k ++ [v])))) (hk : k ≤ rs.length) (hl : xs.length = k + 1) (hv : vs.length = rs.length) (hz : rs.length < 1000) (ha : ARs s.heap rs vs) :
    wpAny (model X.prog X.w) A (bindArgs fd ⟨vs, []⟩) (fun binds s' => ∃ us ds h' tk, binds = xs.zip us ∧ s' = { s with heap := h', toks := tk } ∧ Ext s.heap h' ∧ xs.length = us.length ∧ Vs h' ds us ∧ ∃ ds0, ArgsD h' rs ds0 ∧ ds = ds0.take k ++ [.tup (ds0.drop k)]) NoE s := by
  obtain ⟨ds, h1, h2⟩ := argsD_of ha
  rw [hb]
  have x := Ext.push s.heap { cls := .type "tuple", data := .seq (vs.drop k).toArray }
  refine wpAny_bind (wpAny_newTuple (wpAny_pure ⟨vs.take k ++ [.ref s.heap.objs.size], _, _, s.toks, rfl, rfl, x, ?_, ?_, ds, h1.ext x, rfl⟩) (by have : sizeLine = 2 ^ 24 := rfl; show (vs.drop k).toArray.size ≤ sizeLine; simp; omega))
  · rw [List.length_append, List.length_take]; simp; omega
  · refine ((h2.take k).mono x.tg).append (.cons ?_ .nil)
    simp only [V]
    exact ⟨_, _, rfl, IsTup.new _ _, by simpa using (h2.drop k).mono x.tg⟩

/-! calls with what they are applied to already found -/
def As (X : Cx) (A : Around) (g : Heap) (env : Env) (ρ : Rho) (σ : Sig) (pos : Pos) (f : Value) (first : List Value) (args : List Expr) (Q : Res → Prop) : Prop := ∀ s, SX X g env ρ σ s.heap → wpAny (model X.prog X.w) A (callWith pos f first (backTo pos (starEach args env)) []) (PE s Q) NoE s

theorem ARs.append {h : Heap} : ∀ {rs ss : List Res} {vs ws : List Value}, ARs h rs vs → ARs h ss ws → ARs h (rs ++ ss) (vs ++ ws)
  | [], _, _, _, e, b => by simp only [ARs] at e; subst e; exact b
  | _ :: _, _, _, _, ⟨v, us, e, a, t⟩, b => by subst e; exact ⟨v, _, rfl, a, t.append b⟩
theorem As.plain {n : Nat} {P : Heap → Prop} {pos : Pos} {f : Value} {first : List Value} {fr : List Res} {e : Expr} {rest : List Expr} {Q : Res → Prop} (hA : Rm n A) (hk : keepIn X.K f = true) (hP : ∀ h, Ext g h → P h) (hf : ∀ h, Ext g h → ARs h fr first)
    (H : Es X A g env ρ σ (e :: rest) (fun rs => FnP X P n f (fr ++ rs) [] Q))
    (he : starEach (e :: rest) env = (false, eval e env) :: starEach rest env := by rfl) (hplain : (backTo pos (starEach rest env)).any (·.1) = false := by rfl) : As X A g env ρ σ pos f first (e :: rest) Q := fun s S => by
  refine callWith_K S.gl.k hk (useS (H pos s S) S fun vs rs h1 tk1 S1 x1 y1 q => ⟨S1.gl.k, ?_⟩) he hplain
  exact wpAny_mono (q.wp A { s with heap := h1, toks := tk1 } (first ++ vs) hA S1.gl (hP _ S1.keep) ((hf _ S1.keep).append y1.ars)) (fun v s' p => PE.lift x1 p) fun _ _ f => f
theorem As.star {n : Nat} {P : Heap → Prop} {pos p py : Pos} {y : Str} {f : Value} {first : List Value} {fr : List Res} {ds : List D} {Q : Res → Prop} (hA : Rm n A) (hk : keepIn X.K f = true) (hP : ∀ h, Ext g h → P h) (hf : ∀ h, Ext g h → ARs h fr first)
    (hl : ρ.lookup y = some (.tup ds)) (hz : ds.length < 1000) (H : ∀ vs h, Ext g h → Vs h ds vs → ∃ rs, ARs h rs vs ∧ FnP X P n f (fr ++ rs) [] Q) (hv : varOk env y = true := by rfl)
    (he : starEach [.Starred (.Name y py) p] env = [(true, eval (.Name y py) env)] := by rfl) : As X A g env ρ σ pos f first [.Starred (.Name y py) p] Q := fun s S => by
  have HN : Ev X A g env ρ σ (.Name y py) (fun r => r = .d (.tup ds)) := Ev.name _ hl hv rfl
  refine callWith_S S.gl.k hk (Mine.use (HN s S) S fun v r h1 tk1 S1 x1 y1 e1 => ?_) he
  subst e1
  simp only [VR, V] at y1
  obtain ⟨a, items, rfl, hi, hvs⟩ := y1
  obtain ⟨o, ho, hc, nn, hd⟩ := id hi
  have hT : Shared.TypeIs { s with heap := h1, toks := tk1 } (.ref a) "tuple" := ⟨o, ho, hc⟩
  have hsz : items.size = ds.length := by rw [hvs.length]; simp
  have z : wpAny (model X.prog X.w) A (collect (.ref a)) (fun vs s₂ => X.K.In s₂.heap ∧ wpAny (model X.prog X.w) A (call f (first ++ vs)) (PE s Q) NoE s₂) NoE { s with heap := h1, toks := tk1 } := by
    refine wpAny_collect_seq (s := { s with heap := h1, toks := tk1 }) a (.inr rfl) ho hc hd (fun h' hk' => ?_) (by have : sizeLine = 2 ^ 24 := rfl; omega)
    have x' : Ext h1 h' := fun b o e => hk' b o e
    have S2 := S1.ext x'
    obtain ⟨rs, hr, q⟩ := H items.toList h' S2.keep (hvs.mono x'.tg)
    exact ⟨S2.gl.k, wpAny_mono (q.wp A { s with heap := h', toks := tk1 } _ hA S2.gl (hP _ S2.keep) ((hf _ S2.keep).append hr)) (fun v s' p => PE.lift (x1.trans x') p) fun _ _ f => f⟩
  unfold StarOf notIterableAtAll
  exact wpAny_bind (wpAny_specialOf hT PySem.F.slot_tuple_iter.lookup (wpAny_pure ⟨rfl, z⟩))
end
end Mine

namespace Mine
open PySem PySem.W PySem.Calls PyProof.Rows Builtin.ObjectAttr

/-- the class, as the text's fragment has it -/
structure DLc (K : Frag) (C : Addr) : Prop where
  hga : findIn K (.ref C) "__getattribute__" = some (some (.builtin "object.__getattribute__"))
  hgt : findIn K (.ref C) "__getattr__" = some none
  hdict : hasDictIn K C = true
  tf : findIn K (.ref C) "test_func" = some none
  qv : findIn K (.ref C) "qval" = some none
  rs : findIn K (.ref C) "restricted" = some none

def methNames : List Str := ["_ident", "maximum", "distance", "similarity", "quick_answer", "_get_sequences", "_pure_python_restricted", "_pure_python_unrestricted"]
structure Inst (C tf : Addr) (h : Heap) (I : Addr) (q : Int) (r : Bool) : Prop where
  ok : ∃ dx es n, h.get? I = some (instObj C dx) ∧ h.get? dx = some (dictOf es n) ∧ (∃ t, getL "qval" es = some (some (.int q t))) ∧ getL "test_func" es = some (some (.ref tf)) ∧ getL "restricted" es = some (some (.bool r)) ∧
    ∀ nm ∈ methNames, getL nm es = some none
theorem Inst.ext {C tf : Addr} {h h' : Heap} {I : Addr} {q : Int} {r : Bool} (i : Inst C tf h I q r) (x : Ext h h') : Inst C tf h' I q r :=
  let ⟨dx, es, n, h1, h2, h3⟩ := i; ⟨dx, es, n, x _ _ h1, x _ _ h2, h3⟩
theorem Inst.stay {C tf I : Addr} {q : Int} {r : Bool} : Stay (fun h => Inst C tf h I q r) := fun h h' x i => i.ext x

section
variable {X : Cx} {A : Around} {g : Heap} {env : Env} {ρ : Rho} {σ : Sig} {E : Value → Shared → Prop}

theorem Inst.at {C tf : Addr} {h : Heap} {I : Addr} {q : Int} {r : Bool} (i : Inst C tf h I q r) : ∃ dx es n, InstAt h I (instObj C dx) C (some (dictOf es n)) ∧ (∃ t, getL "qval" es = some (some (.int q t))) ∧ getL "test_func" es = some (some (.ref tf)) ∧ getL "restricted" es = some (some (.bool r)) ∧
    ∀ nm ∈ methNames, getL nm es = some none :=
  let ⟨dx, es, n, h1, h2, h3⟩ := i; ⟨dx, es, n, ⟨h1, rfl, rfl, h2⟩, h3⟩

/-- own field -/
theorem getattr_own {C I dx : Addr} {es : List DictEntry} {n : Nat} {s : Shared} {name : Str} {v : Value} {expr : Bool} {Q : Value → Shared → Prop} (c : DLc X.K C) (S : SX X g env ρ σ s.heap) (i : InstAt s.heap I (instObj C dx) C (some (dictOf es n)))
    (ha : findIn X.K (.ref C) name = some none) (hl : getL name es = some (some v)) (hv : handedIn v = true) (h : Q v { s with toks := s.toks + 1 }) : wpAny (model X.prog X.w) A (getAttr (.ref I) name expr) Q E s :=
  get_value S.gl.k i c.hga (findObj_own c.hdict ha rfl (by show lookIn name (dictOf es n) = _; rw [lookIn_dict, hl])) hv h

theorem ev_attr {x name : Str} {px pos : Pos} {C I tf : Addr} {q : Int} {r : Bool} {Q : Res → Prop} (c : DLc X.K C) (hl : ρ.lookup x = some (.val (.ref I))) (hi : Inst C tf g I q r) (ho : varOk env x = true)
    (he : eval (.Attribute (.Name x px) name pos) env = (do
      let o ← eval (.Name x px) env
      standAt pos.atName
      let r ← holding [o] (getAttr o name true)
      letTemporaryGo (.Name x px) o r
      pure r))
    (ha : findIn X.K (.ref C) name = some none)
    (hk : ∀ es, (∃ t, getL "qval" es = some (some (.int q t))) → getL "test_func" es = some (some (.ref tf)) → getL "restricted" es = some (some (.bool r)) → ∃ v, getL name es = some (some v) ∧ handedIn v = true ∧ ∀ h₀ h, ∃ rr, VR h₀ h rr v ∧ Q rr) :
    Ev X A g env ρ σ (.Attribute (.Name x px) name pos) Q := fun s S => by
  have HN : Ev X A g env ρ σ (.Name x px) (fun r => r = .d (.val (.ref I))) := Ev.name _ hl ho rfl
  refine Attribute_any_ (Mine.use (HN s S) S fun v r' h1 tk1 S1 x1 y1 e1 => ?_) he
  subst e1
  simp only [VR, V] at y1
  subst y1
  obtain ⟨dx, es, n, hat, h1', h2', h3', _⟩ := (hi.ext S1.keep).at
  obtain ⟨v, e, hv, hr⟩ := hk es h1' h2' h3'
  refine getattr_own (s := { s with heap := h1, toks := tk1 }) c S1 hat ha e hv ?_
  obtain ⟨rr, a, b⟩ := hr s.heap h1
  exact .mk rr x1 a b
theorem Ev.qval {x : Str} {px pos : Pos} {C I tf : Addr} {q : Int} {r : Bool} {Q : Res → Prop} (c : DLc X.K C) (hl : ρ.lookup x = some (.val (.ref I))) (hi : Inst C tf g I q r) (k : Q (.d (.int q))) (ho : varOk env x = true := by rfl)
    (he : eval (.Attribute (.Name x px) "qval" pos) env = (do
      let o ← eval (.Name x px) env
      standAt pos.atName
      let r ← holding [o] (getAttr o "qval" true)
      letTemporaryGo (.Name x px) o r
      pure r) := by with_unfolding_all rfl) : Ev X A g env ρ σ (.Attribute (.Name x px) "qval" pos) Q :=
  ev_attr c hl hi ho he c.qv fun es ⟨t, h1⟩ _ _ => ⟨_, h1, rfl, fun _ _ => ⟨.d (.int q), by simp [VR, V], k⟩⟩
theorem Ev.restricted {x : Str} {px pos : Pos} {C I tf : Addr} {q : Int} {r : Bool} {Q : Res → Prop} (c : DLc X.K C) (hl : ρ.lookup x = some (.val (.ref I))) (hi : Inst C tf g I q r) (k : Q (.d (.val (.bool r)))) (ho : varOk env x = true := by rfl)
    (he : eval (.Attribute (.Name x px) "restricted" pos) env = (do
      let o ← eval (.Name x px) env
      standAt pos.atName
      let r ← holding [o] (getAttr o "restricted" true)
      letTemporaryGo (.Name x px) o r
      pure r) := by with_unfolding_all rfl) : Ev X A g env ρ σ (.Attribute (.Name x px) "restricted" pos) Q :=
  ev_attr c hl hi ho he c.rs fun es _ _ h1 => ⟨_, h1, rfl, fun _ _ => ⟨.d (.val (.bool r)), by simp [VR, V], k⟩⟩

/-- what a name after a dot gives, to be called -/
def GetM (X : Cx) (I : Addr) (P : Heap → Prop) (name : Str) (f : Value) (first : List Value) : Prop := ∀ (A : Around) (E : Value → Shared → Prop) (pl : Sem Bool) (s : Shared) (Q : Value × List Value → Shared → Prop), GX X s.heap → P s.heap → (∀ tk, Q (f, first) { s with toks := tk }) →
  wpAny (model X.prog X.w) A (getMethod (.ref I) name pl) Q E s
theorem GetM.fn {C I tf f : Addr} {q : Int} {r : Bool} {name : Str} (c : DLc X.K C) (hm : name ∈ methNames) (hf : findIn X.K (.ref C) name = some (some (.ref f))) (ht : typeIn X.K (.ref f) = some (.type "function")) :
    GetM X I (fun h => Inst C tf h I q r) name (.ref f) [.ref I] := fun A E pl s Q hg hi h => by
  obtain ⟨dx, es, n, hat, h1', h2', h3', h4⟩ := hi.at
  refine method_fn hg.k hat c.hga c.hgt hf ht ?_ (h s.toks)
  show (lookIn name (dictOf es n)).map _ = _
  rw [lookIn_dict, h4 name hm]; rfl
theorem method_usual {C I : Addr} {ox : Obj} {od : Option Obj} {s : Shared} {name : Str} {pl : Sem Bool} {Q : Value × List Value → Shared → Prop} {attr : Option Value} (X' : X.K.In s.heap) (i : InstAt s.heap I ox C od) (c : DLc X.K C)
    (hf : findIn X.K (.ref C) name = some attr) (ha : ∀ a, attr = some a → ∃ t, typeIn X.K a = some t ∧ (t != .type "function" && t != .type "method_descriptor" && t != .type "wrapper_descriptor") = true)
    (h : wpAny (model X.prog X.w) A (getAttr (.ref I) name) (fun v => Q (v, [])) E s) : wpAny (model X.prog X.w) A (getMethod (.ref I) name pl) Q E s := by
  have hcan := PySem.F.canon_object_ga
  have us : wpAny (model X.prog X.w) A (do return (← getAttr (.ref I) name, ([] : List Value))) Q E s := wpAny_bind (wpAny_mono h (fun v s' z => wpAny_pure z) fun _ _ z => z)
  unfold getMethod specialOf
  refine wpAny_bind (wpAny_bind (i.type.here ((looks_findIn X' c.hga).here ?_)))
  dsimp only
  rw [hcan, if_neg (by decide)]
  refine wpAny_bind (wpAny_bind (i.type.here ((looks_findIn X' c.hgt).here ?_)))
  refine wpAny_bind (wpAny_bind (i.type.here ((looks_findIn X' hf).here ?_)))
  cases attr with
  | none => exact us
  | some a =>
    obtain ⟨t, e, hne⟩ := ha a rfl
    refine wpAny_bind ((looks_typeIn X' e).here ?_)
    rw [if_pos hne]
    exact us
theorem GetM.own {C I tf : Addr} {q : Int} {r : Bool} (c : DLc X.K C) : GetM X I (fun h => Inst C tf h I q r) "test_func" (.ref tf) [] := fun A E pl s Q hg hi h => by
  obtain ⟨dx, es, n, hat, h1', h2', h3', h4⟩ := hi.at
  refine method_usual hg.k hat c c.tf (fun a e => by cases e) ?_
  exact get_value hg.k hat c.hga (findObj_own c.hdict c.tf rfl (by show lookIn _ (dictOf es n) = _; rw [lookIn_dict, h2'])) rfl (h _)
theorem getattr_static {C I p : Addr} {ox : Obj} {f : Value} {fl : List Value} {es : List DictEntry} {n : Nat} {name : Str} {s : Shared} {expr : Bool} {Q : Value → Shared → Prop} (c : DLc X.K C) (hg : GX X s.heap) (i : InstAt s.heap I ox C (some (dictOf es n))) (hn : getL name es = some none)
    (hf : findIn X.K (.ref C) name = some (some (.ref p)))
    (hget : specialIn X.K (.ref p) "__get__" = some (some (.builtin "staticmethod.__get__"))) (ht : takesIn X.K (.ref p) = some false) (hc : copiedNames.contains name = false) (hp : recIn X.K p "staticmethod" = some (f :: fl)) (hh : handedIn f = true)
    (h : Q f { s with toks := s.toks + 1 }) : wpAny (model X.prog X.w) A (getAttr (.ref I) name expr) Q E s := by
  refine get_bind hg.k i c.hga (findObj_fn c.hdict hf hget ht hc (by show lookIn name (dictOf es n) = _; rw [lookIn_dict, hn])) c.hgt ?_
  exact wpAny_call (sm_get (s := { s with toks := s.toks + 1 }) hg.k hp (handed_on hh h))
theorem GetM.static {C I tf p f : Addr} {fl : List Value} {q : Int} {r : Bool} {name : Str} (c : DLc X.K C) (hm : name ∈ methNames) (hf : findIn X.K (.ref C) name = some (some (.ref p)))
    (hty : typeIn X.K (.ref p) = some (.type "staticmethod")) (hget : specialIn X.K (.ref p) "__get__" = some (some (.builtin "staticmethod.__get__"))) (ht : takesIn X.K (.ref p) = some false) (hc : copiedNames.contains name = false) (hp : recIn X.K p "staticmethod" = some (.ref f :: fl)) :
    GetM X I (fun h => Inst C tf h I q r) name (.ref f) [] := fun A E pl s Q hg hi h => by
  obtain ⟨dx, es, n, hat, h1', h2', h3', h4⟩ := hi.at
  refine method_usual hg.k hat c hf (fun a e => ?_) ?_
  · cases e; exact ⟨_, hty, by decide⟩
  · exact getattr_static c hg hat (h4 name hm) hf hget ht hc hp rfl (h _)

theorem Ev.method {x name : Str} {px apos pos : Pos} {I : Addr} {P : Heap → Prop} {f : Value} {first : List Value} {args : List Expr} {Q : Res → Prop} (hl : ρ.lookup x = some (.val (.ref I))) (hP : ∀ h, Ext g h → P h) (hm : GetM X I P name f first)
    (H : As X A g env ρ σ pos f first args Q) (ho : varOk env x = true := by rfl) {pl : Sem Bool}
    (he : eval (.Call (.Attribute (.Name x px) name apos) args [] pos) env = (do
      let ov ← eval (.Name x px) env
      standAt apos.atName
      let (f, first) ← holding [ov] (getMethod ov name pl)
      callWith pos f first (backTo pos (starEach args env)) []) := by rfl) : Ev X A g env ρ σ (.Call (.Attribute (.Name x px) name apos) args [] pos) Q := fun s S => by
  have HN : Ev X A g env ρ σ (.Name x px) (fun r => r = .d (.val (.ref I))) := Ev.name _ hl ho rfl
  refine MethodCall_ (Mine.use (HN s S) S fun v r' h1 tk1 S1 x1 y1 e1 => ?_) he
  subst e1
  simp only [VR, V] at y1
  subst y1
  refine hm A _ _ _ _ S1.gl (hP _ S1.keep) fun tk => ?_
  exact wpAny_mono (H { s with heap := h1, toks := tk } S1) (fun v s' p => PE.lift x1 p) fun _ _ f => f

/-- the same with a starred argument: a full read of the field -/
def GetA (X : Cx) (I : Addr) (P : Heap → Prop) (name : Str) (f : Value) : Prop := ∀ (A : Around) (E : Value → Shared → Prop) (s : Shared) (Q : Value → Shared → Prop), GX X s.heap → P s.heap → (∀ tk, Q f { s with toks := tk }) →
  wpAny (model X.prog X.w) A (getAttr (.ref I) name true) Q E s
theorem GetA.static {C I tf p f : Addr} {fl : List Value} {q : Int} {r : Bool} {name : Str} (c : DLc X.K C) (hm : name ∈ methNames) (hf : findIn X.K (.ref C) name = some (some (.ref p)))
    (hget : specialIn X.K (.ref p) "__get__" = some (some (.builtin "staticmethod.__get__"))) (ht : takesIn X.K (.ref p) = some false) (hc : copiedNames.contains name = false) (hp : recIn X.K p "staticmethod" = some (.ref f :: fl)) :
    GetA X I (fun h => Inst C tf h I q r) name (.ref f) := fun A E s Q hg hi h => by
  obtain ⟨dx, es, n, hat, h1', h2', h3', h4⟩ := hi.at
  exact getattr_static c hg hat (h4 name hm) hf hget ht hc hp rfl (h _)
theorem Ev.methodS {x name : Str} {px apos pos : Pos} {I : Addr} {P : Heap → Prop} {f : Value} {args : List Expr} {Q : Res → Prop} (hl : ρ.lookup x = some (.val (.ref I))) (hP : ∀ h, Ext g h → P h) (hm : GetA X I P name f)
    (H : As X A g env ρ σ pos f [] args Q) (ho : varOk env x = true := by rfl)
    (he : eval (.Call (.Attribute (.Name x px) name apos) args [] pos) env = (do
      let ov ← eval (.Name x px) env
      standAt apos.atName
      let (f, first) ← holding [ov] (do pure (← getAttr ov name true, ([] : List Value)))
      callWith pos f first (backTo pos (starEach args env)) []) := by rfl) : Ev X A g env ρ σ (.Call (.Attribute (.Name x px) name apos) args [] pos) Q := fun s S => by
  have HN : Ev X A g env ρ σ (.Name x px) (fun r => r = .d (.val (.ref I))) := Ev.name _ hl ho rfl
  rw [he]
  refine wpAny_bind (Mine.use (HN s S) S fun v r' h1 tk1 S1 x1 y1 e1 => ?_)
  subst e1
  simp only [VR, V] at y1
  subst y1
  refine wpAny_bind (wpAny_standAt (wpAny_bind (wpAny_holding (wpAny_bind (hm A _ { s with heap := h1, toks := tk1 } _ S1.gl (hP _ S1.keep) fun tk => wpAny_pure ?_)))))
  exact wpAny_mono (H { s with heap := h1, toks := tk } S1) (fun v s' p => PE.lift x1 p) fun _ _ f => f

/-- self(*sequences) -/
theorem Ev.callObj {n : Nat} {x y : Str} {px p py pos : Pos} {C I tf f : Addr} {q : Int} {r : Bool} {ds : List D} {Q : Res → Prop} (hA : Rm n A) (c : DLc X.K C) (hl : ρ.lookup x = some (.val (.ref I))) (hi : Inst C tf g I q r)
    (hs : findIn X.K (.ref C) "__call__" = some (some (.ref f))) (hf : isFn X.K (.ref f) = true) (hfn : fnIn X.K f = true)
    (hl2 : ρ.lookup y = some (.tup ds)) (hz : ds.length < 1000) (H : ∀ vs h, Ext g h → Vs h ds vs → ∃ rs, ARs h rs vs ∧ FnP X (fun h => Inst C tf h I q r) n (.ref f) (.d (.val (.ref I)) :: rs) [] Q) (hv : varOk env x = true := by rfl) (hv2 : varOk env y = true := by rfl)
    (he : starEach [.Starred (.Name y py) p] env = [(true, eval (.Name y py) env)] := by rfl) :
    Ev X A g env ρ σ (.Call (.Name x px) [.Starred (.Name y py) p] [] pos) Q := fun s S => by
  have HN : Ev X A g env ρ σ (.Name x px) (fun r => r = .d (.val (.ref I))) := Ev.name _ hl hv rfl
  refine Call_ (Mine.use (HN s S) S fun v r h1 tk1 S1 x1 y1 e1 => ?_)
  subst e1
  simp only [VR, V] at y1
  subst y1
  have HM : Ev X A g env ρ σ (.Name y py) (fun r => r = .d (.tup ds)) := Ev.name _ hl2 hv2 rfl
  have key : wpAny (model X.prog X.w) A (evalArgs (.ref I) true (backTo pos (starEach [.Starred (.Name y py) p] env)) []) (fun a s₁ => (GX X s₁.heap ∧ Inst C tf s₁.heap I q r) ∧ wpAny (model X.prog X.w) A (call (.ref I) a.pos a.kw) (PE s Q) NoE s₁) NoE { s with heap := h1, toks := tk1 } := by
    rw [he]
    refine ks_lone (Mine.use (HM _ S1) S1 fun v r h2 tk2 S2 x2 y2 e2 => ?_)
    subst e2
    simp only [VR, V] at y2
    obtain ⟨a, items, rfl, ht, hvs⟩ := y2
    obtain ⟨o, ho, hc, nn, hd⟩ := id ht
    have hT : Shared.TypeIs { s with heap := h2, toks := tk2 } (.ref a) "tuple" := ⟨o, ho, hc⟩
    have hsz : items.size = ds.length := by rw [hvs.length]; simp
    have z : wpAny (model X.prog X.w) A (collect (.ref a)) (fun vs s₁ => (GX X s₁.heap ∧ Inst C tf s₁.heap I q r) ∧ wpAny (model X.prog X.w) A (call (.ref I) vs) (PE s Q) NoE s₁) NoE { s with heap := h2, toks := tk2 } := by
      refine wpAny_collect_seq (s := { s with heap := h2, toks := tk2 }) a (.inr rfl) ho hc hd (fun h' hk' => ?_) (by have : sizeLine = 2 ^ 24 := rfl; omega)
      have x' : Ext h2 h' := fun b o e => hk' b o e
      have S3 := S2.ext x'
      obtain ⟨rs, hr, qq⟩ := H items.toList h' S3.keep (hvs.mono x'.tg)
      have hi3 := hi.ext S3.keep
      refine ⟨⟨S3.gl, hi3⟩, ?_⟩
      obtain ⟨dx, es, n', hat, _⟩ := hi3.at
      have hq := qq A { s with heap := h', toks := tk2 } (.ref I :: items.toList) hA S3.gl hi3 ⟨.ref I, _, rfl, by simp [AR, V], hr⟩
      refine wpAny_call (kco_code (a := ⟨items.toList, []⟩) S3.gl.k hat rfl hs hf hfn (codeAny_mono hq fun r s' h => ?_))
      rcases r with e | (_ | _ | _ | v) <;> first | exact h.elim | exact PE.lift ((x1.trans x2).trans x') h
    unfold StarOf notIterableAtAll
    exact wpAny_bind (wpAny_specialOf hT PySem.F.slot_tuple_iter.lookup (wpAny_pure ⟨rfl, z⟩))
  have hst : (backTo pos (starEach [.Starred (.Name y py) p] env)).any (·.1) = true := by rw [he]; rfl
  unfold callWith
  refine wpAny_bind (wpAny_holding (wpAny_mono key (fun a s₁ h₁ => wpAny_bind (wpAny_standAt ?_)) fun _ _ f => f))
  obtain ⟨⟨hg1, hi1⟩, hq⟩ := h₁
  obtain ⟨dx, es, n', hat, _⟩ := hi1.at
  simp only [hst, Bool.true_or]
  refine wpAny_bind ((kco_keeper (M := model X.prog X.w) hat rfl).here ?_)
  dsimp only
  refine wpAny_bind (wpAny_operating (wpAny_mono hq (fun r s₂ hr => wpAny_bind (wpAny_holding (wpAny_point (wpAny_pure hr)))) fun _ _ x => x))
end
end Mine

namespace Mine
open PySem PySem.W PySem.Calls PyProof.Rows

abbrev freshSet (led : Bool) : Obj := { cls := .type "set", dict := none, data := .set #[] 0 (.fresh 0 0 led) }
abbrev setIter (s : Heap) (t : Addr) (led : Bool) : Heap := (s.push (freshSet led)).push { cls := .type "tuple_iterator", data := .fields #[.ref t, .int 0 0] }
theorem sub_tuple_set : isSubtype (.type "tuple") (.type "set") = pure false := by rw [isSubtype_type]; kernel_rfl
theorem sub_tuple_frozenset : isSubtype (.type "tuple") (.type "frozenset") = pure false := by rw [isSubtype_type]; kernel_rfl

section
variable {prog : Program} {w : World} {A : Around} {E : Value → Shared → Prop} {s : Shared}
set_option maxHeartbeats 3200000 in
theorem call_set_open {t : Addr} {items : Array Value} {Q : Value → Shared → Prop} (hl : s.heap.IsTuple t items)
    (loop : ∀ (A' : Around) (led : Bool), A'.handled = A.handled → A'.units ≤ A.units + 4 →
      codeAny (model prog w) A' (.builtin "set.update.loop" ⟨[.ref s.heap.objs.size, .ref (s.heap.objs.size + 1)], []⟩) (fun r s' => match r with
        | .ok (.ret v) => v = .none ∧ ∃ h' tk, s' = { s with heap := h', toks := tk } ∧ Q (.ref s.heap.objs.size) s'
        | .ok _ => False
        | .error e => E e s') { s with heap := setIter s.heap t led }) :
    wpAny (model prog w) A (call (.type "set") [.ref t]) Q E s := by
  obtain ⟨c, tl, hmro⟩ := PySem.F.called_set.mro
  have hmade := PySem.F.called_set.made
  have hsub := PySem.F.called_set.sub
  refine wpAny_call (codeAny_of_tree ?_)
  show wpAny _ _ (callAny (.type "set") _) _ _ _
  refine wpAny_pure ⟨Code.quiet_builtin _ (by decide +kernel), codeAny_builtin PySem.F.entry_type_call ?_⟩
  rw [Around.under_plain (weight_type_call_type "set" [.ref t] []) rfl]
  have h1 := PySem.F.called_set.notType
  have h2 := PySem.F.called_set.canCreate
  have hct := PySem.F.typeCall_set_1 (.ref t)
  repeat (any_goals (first | assumption | wp_step))
  refine codeAny_mono (code_set_new_1 (.ref t) (E := E) (Q₁ := fun obj s₁ => ∃ led : Bool, obj = .ref s.heap.objs.size ∧ s₁ = { s with heap := s.heap.push (freshSet led) }) fun led => ⟨led, rfl, rfl⟩) fun r s₁ hr => ?_
  cases r with
  | error e => exact hr
  | ok fl =>
    cases fl with
    | ret obj =>
      obtain ⟨led, rfl, rfl⟩ := hr
      have hS : (s.heap.push (freshSet led)).get? s.heap.objs.size = some (freshSet led) := Heap.get?_push_size _ rfl
      have hT : Shared.TypeIs { s with heap := s.heap.push (freshSet led) } (.ref s.heap.objs.size) "set" := ⟨_, hS, rfl⟩
      have hli := PySem.F.called_set.init.lookup
      have hbi := PySem.F.called_set.init.bind (.ref s.heap.objs.size)
      repeat (any_goals (first | assumption | wp_step))
      refine codeAny_mono (codeAny_call_builtin (R := wants (fun r s₂ => r = .none ∧ ∃ h' tk, s₂ = { s with heap := h', toks := tk } ∧ Q (.ref s.heap.objs.size) s₂) E) PySem.F.called_set.init.plain PySem.F.entry_set_init (check_set_init_1 hT ?_)) fun r₂ s₂ hr₂ => ?_
      · obtain ⟨ol, hol, hcl, nl, hdl⟩ := hl
        obtain ⟨ocls, odict, odata, oslots⟩ := ol
        simp only at hcl hdl
        subst hcl; subst hdl
        have hol' : (s.heap.push (freshSet led)).get? t = some { cls := .type "tuple", dict := odict, data := .seq items nl, slots := oslots } := Heap.get?_push_of_some _ hol
        have hsls := sub_tuple_set
        have hslf := sub_tuple_frozenset
        have hne : (Value.type "tuple" == Value.type "dict") = false := by decide
        have hl1 : (s.heap.push (freshSet led)).IsTuple t items := ⟨_, hol', rfl, nl, rfl⟩
        unfold Builtin.«set.__init__» noKeywords Builtin.Frozenset.updateFrom
        generalize hPI : pyIter = PI
        wp_walk
        subst hPI
        refine wpAny_pyIter_tuple hl1 ?_
        refine wpAny_bind (wpAny_runValue ?_)
        have hz : (s.heap.push (freshSet led)).objs.size = s.heap.objs.size + 1 := Heap.size_push ..
        dsimp only
        rw [hz]
        refine codeAny_mono (loop _ led ?_ ?_) fun r s' hr => ?_
        · rfl
        · simp only [Around.in1]; omega
        · rcases r with e | (_ | _ | _ | v)
          · exact hr
          · exact hr.elim
          · exact hr.elim
          · exact hr.elim
          · obtain ⟨rfl, h', tk, rfl, q⟩ := hr
            exact wpAny_pure (wpAny_pure ⟨rfl, h', tk, rfl, q⟩)
      · cases r₂ with
        | error e => exact hr₂
        | ok fl₂ =>
          cases fl₂ with
          | ret r =>
            obtain ⟨rfl, h', tk, rfl, q⟩ := hr₂
            repeat (any_goals (first | assumption | wp_step))
          | _ => exact hr₂.elim
    | _ => exact hr.elim
end
end Mine

namespace Mine
open PySem PySem.W PySem.Calls PyProof.Rows

/-! tables of at most one element -/
def oneT (j : Nat) (led pl : Bool) : SetTable := { mask := 7, place := #[j], dummies := #[], finger := 0, led := led, moves := 0, plain := pl }
theorem probe_none (led : Bool) (f : Nat → Int) (h : Int) : (SetTable.fresh 0 0 led).probe f h ((SetTable.fresh 0 0 led).probeStart h) = some (.empty (SetTable.bits h % 8) none) := by rfl
theorem slot_one (j0 : Nat) (led pl : Bool) (j : Nat) : (oneT j0 led pl).slot j = if j = j0 then .live 0 else .empty := by
  unfold SetTable.slot oneT SetTable.below SetTable.has
  simp only [List.size_toArray, List.length_cons, List.length_nil]
  by_cases h1 : j0 < j
  · have : j ≠ j0 := by omega
    simp [SetTable.below.go, h1, this]
  · by_cases h2 : j = j0
    · subst h2; simp [SetTable.below.go]
    · have h3 : j0 ≠ j := Ne.symm h2
      simp [SetTable.below.go, h1, h2, h3]
theorem adv_one (j0 : Nat) (led pl : Bool) (p : SetTable.Probe) (hm : p.more = 0) : (oneT j0 led pl).advance p = { p with j := (p.i * 5 + 1 + p.perturb / 32) % 8, more := SetTable.runEnd 7 ((p.i * 5 + 1 + p.perturb / 32) % 8) - ((p.i * 5 + 1 + p.perturb / 32) % 8), i := (p.i * 5 + 1 + p.perturb / 32) % 8, perturb := p.perturb / 32 } := by
  unfold SetTable.advance
  rw [if_neg (by omega)]
  rfl
theorem runEnd_small {i : Nat} (h : i < 8) : SetTable.runEnd 7 i - i = 0 := by
  unfold SetTable.runEnd
  rw [if_neg (by omega)]; omega
structure Pr (p : SetTable.Probe) : Prop where
  more : p.more = 0
  dummy : p.dummy = none
  ji : p.j = p.i
  lt : p.i < 8
theorem Pr.adv {j0 : Nat} {led pl : Bool} {p : SetTable.Probe} (h : Pr p) : Pr ((oneT j0 led pl).advance p) ∧ ((oneT j0 led pl).advance p).perturb = p.perturb / 32 ∧ ((oneT j0 led pl).advance p).j = (p.j * 5 + 1 + p.perturb / 32) % 8 := by
  rw [adv_one j0 led pl p h.more]
  have hl : (p.i * 5 + 1 + p.perturb / 32) % 8 < 8 := Nat.mod_lt _ (by decide)
  exact ⟨⟨runEnd_small hl, h.dummy, rfl, hl⟩, rfl, by rw [h.ji]⟩
theorem start_pr (j0 : Nat) (led pl : Bool) (h : Int) : Pr ((oneT j0 led pl).probeStart h) ∧ ((oneT j0 led pl).probeStart h).j = SetTable.bits h % 8 ∧ ((oneT j0 led pl).probeStart h).perturb = SetTable.bits h := by
  have hl : SetTable.bits h % 8 < 8 := Nat.mod_lt _ (by decide)
  exact ⟨⟨runEnd_small hl, rfl, rfl, hl⟩, rfl, rfl⟩
theorem bits_lt (h : Int) : SetTable.bits h < 32 ^ 13 := by
  unfold SetTable.bits
  have : h % (2 ^ 64 : Int) < 2 ^ 64 := Int.emod_lt_of_pos _ (by decide)
  have h2 : 0 ≤ h % (2 ^ 64 : Int) := Int.emod_nonneg _ (by decide)
  omega
/-- hashes apart: an empty place is met -/
theorem go_apart (j0 : Nat) (led pl : Bool) (f : Nat → Int) (h : Int) (hne : f 0 ≠ h) : ∀ (n : Nat) (p : SetTable.Probe) (fuel : Nat), Pr p → p.perturb < 32 ^ n → n + 2 ≤ fuel → ∃ j, SetTable.probe.go (oneT j0 led pl) f h fuel p = some (.empty j none)
  | n, p, 0, hp, _, hf => by omega
  | n, p, fuel + 1, hp, hlt, hf => by
    unfold SetTable.probe.go
    rw [slot_one]
    by_cases hj : p.j = j0
    · rw [if_pos hj]
      dsimp only
      rw [if_neg (by simpa using hne)]
      obtain ⟨h1, h2, h3⟩ := hp.adv (j0 := j0) (led := led) (pl := pl)
      cases n with
      | zero =>
        have hz : p.perturb = 0 := by simpa using hlt
        obtain ⟨fuel, rfl⟩ : ∃ k, fuel = k + 1 := ⟨fuel - 1, by omega⟩
        unfold SetTable.probe.go
        rw [slot_one, if_neg (by rw [h3, hz, ← hj, hp.ji]; have := hp.lt; omega)]
        exact ⟨_, by rw [h1.dummy]⟩
      | succ n =>
        refine go_apart j0 led pl f h hne n _ fuel h1 ?_ (by omega)
        rw [h2]
        rw [Nat.pow_succ] at hlt
        omega
    · rw [if_neg hj]
      exact ⟨_, by rw [hp.dummy]⟩
theorem probe_live (j0 : Nat) (led pl : Bool) (f : Nat → Int) (h : Int) (p : SetTable.Probe) (hp : Pr p) (hj : p.j = j0) (he : f 0 = h) : (oneT j0 led pl).probe f h p = some (.candidate j0 0 ((oneT j0 led pl).advance p)) := by
  unfold SetTable.probe
  show SetTable.probe.go (oneT j0 led pl) f h 220 p = _
  unfold SetTable.probe.go
  rw [slot_one, if_pos hj]
  dsimp only
  rw [if_pos (by simpa using he), hj]
theorem probe_free (j0 : Nat) (led pl : Bool) (f : Nat → Int) (h : Int) (p : SetTable.Probe) (hp : Pr p) (hj : p.j ≠ j0) : (oneT j0 led pl).probe f h p = some (.empty p.j none) := by
  unfold SetTable.probe
  show SetTable.probe.go (oneT j0 led pl) f h 220 p = _
  unfold SetTable.probe.go
  rw [slot_one, if_neg hj, hp.dummy]

section
variable {prog : Program} {w : World} {A : Around} {E : Value → Shared → Prop} {s : Shared}
abbrev IK (prog : Program) (w : World) := intKind prog w

theorem int_items {ks : List Int} {vs : List Value} (h : ItemsAre (intKind prog w) ks vs) : ∀ v ∈ vs, ∃ i t, v = .int i t := by
  induction h with
  | nil => intro v hv; cases hv
  | cons h1 _ ih =>
    intro v hv
    rcases List.mem_cons.mp hv with rfl | hv
    · obtain ⟨t, e⟩ := Value.isInt_shape h1
      exact ⟨_, t, e⟩
    · exact ih v hv
theorem hashByValue_tuple {ks : List Int} {a : Addr} {Q : Bool → Shared → Prop} (hk : IsTupleKey (intKind prog w) s.heap ks a) (h : Q true s) : wpAny (model prog w) A (hashByValue 8 (.ref a)) Q E s := by
  have hT := hk.typeIs
  obtain ⟨o, items, n, ho, _, hd, hi⟩ := hk
  unfold hashByValue
  refine wpAny_bind (wpAny_specialOf hT PySem.F.slot_tuple_hash.lookup ?_)
  refine wpAny_bind (wpAny_seqItems ho hd ?_)
  refine wpAny_bind ?_
  show wpAny _ _ (forIn items _ _) _ _ s
  rw [← Array.forIn_toList]
  refine wpAny_forIn_list _ (fun rest r s' => r.1 = none ∧ s' = s ∧ ∀ v ∈ rest, ∃ i t, v = .int i t) _ ?_ ?_ _ _ ⟨rfl, rfl, int_items hi⟩
  · rintro v rest r s' ⟨hr, rfl, hall⟩
    obtain ⟨i, t, rfl⟩ := hall v List.mem_cons_self
    rw [show hashByValue 7 (.int i t) = pure true from rfl]
    refine wpAny_bind (wpAny_pure ?_)
    simp only [Bool.not_true, Bool.false_eq_true, if_false]
    exact wpAny_pure ⟨rfl, rfl, fun u hu' => hall u (List.mem_cons_of_mem _ hu')⟩
  · rintro ⟨r1, r2⟩ s' ⟨hr, rfl, _⟩
    simp only at hr
    subst hr
    exact wpAny_pure h
theorem classStmt_tuple {ks : List Int} {a : Addr} {Q : Bool → Shared → Prop} (hk : IsTupleKey (intKind prog w) s.heap ks a) (h : Q false s) : wpAny (model prog w) A (ofAClassStatement 8 (.ref a)) Q E s := by
  have hT := hk.typeIs
  obtain ⟨o, items, n, ho, _, hd, hi⟩ := hk
  unfold ofAClassStatement
  refine wpAny_bind (wpAny_typeOf hT ?_)
  dsimp only
  rw [if_pos (by decide)]
  refine wpAny_bind (wpAny_pure ?_)
  simp only [Bool.not_true, Bool.false_eq_true, if_false]
  refine wpAny_bind (wpAny_seqItems ho hd ?_)
  dsimp only
  refine wpAny_bind ?_
  show wpAny _ _ (forIn items _ _) _ _ s
  rw [← Array.forIn_toList]
  refine wpAny_forIn_list _ (fun rest r s' => r.1 = none ∧ s' = s ∧ ∀ v ∈ rest, ∃ i t, v = .int i t) _ ?_ ?_ _ _ ⟨rfl, rfl, int_items hi⟩
  · rintro v rest r s' ⟨hr, rfl, hall⟩
    obtain ⟨i, t, rfl⟩ := hall v List.mem_cons_self
    rw [show ofAClassStatement 7 (.int i t) = pure false from rfl]
    refine wpAny_bind (wpAny_pure ?_)
    simp only [Bool.false_eq_true, if_false]
    exact wpAny_pure ⟨rfl, rfl, fun u hu' => hall u (List.mem_cons_of_mem _ hu')⟩
  · rintro ⟨r1, r2⟩ s' ⟨hr, rfl, _⟩
    simp only at hr
    subst hr
    exact wpAny_pure h
theorem seen_tuple {ks ks' : List Int} {a b : Addr} {Q : Bool → Shared → Prop} (hk : IsTupleKey (intKind prog w) s.heap ks a) (hk' : IsTupleKey (intKind prog w) s.heap ks' b) (h : Q false s) : wpAny (model prog w) A (searchCouldBeSeen (.ref a) [.ref b]) Q E s := by
  unfold searchCouldBeSeen
  refine wpAny_bind ?_
  rw [List.forIn_cons]
  refine wpAny_bind ?_
  dsimp only
  by_cases hab : a = b
  · subst hab
    rw [if_pos (by simp)]
    refine wpAny_pure ?_
    dsimp only
    rw [List.forIn_nil]
    exact wpAny_pure (wpAny_pure h)
  · rw [if_neg (by simp [hab, carriedByValue])]
    refine wpAny_bind (wpAny_eqIsQuiet_tuple hk ?_)
    simp only [Bool.not_true, Bool.false_eq_true, if_false]
    try refine wpAny_bind (wpAny_pure ?_)
    refine wpAny_bind (wpAny_eqIsQuiet_tuple hk' ?_)
    simp only [Bool.not_true, Bool.false_eq_true, if_false]
    try refine wpAny_bind (wpAny_pure ?_)
    refine wpAny_bind (classStmt_tuple hk ?_)
    simp only [Bool.false_eq_true, if_false]
    try refine wpAny_bind (wpAny_pure ?_)
    refine wpAny_bind (classStmt_tuple hk' ?_)
    simp only [Bool.false_eq_true, if_false]
    refine wpAny_pure ?_
    dsimp only
    rw [List.forIn_nil]
    exact wpAny_pure (wpAny_pure h)
end
end Mine

namespace Mine
open PySem PySem.W PySem.Calls PyProof.Rows

abbrev setObj (es : Array (Int × Value)) (ep : Nat) (t : SetTable) : Obj := { cls := .type "set", dict := none, data := .set es ep t }

section
variable {prog : Program} {w : World} {A : Around} {E : Value → Shared → Prop} {s : Shared}

theorem notScan {a : Addr} {es : Array (Int × Value)} : byScan (.ref a) es = false := by simp [byScan, Value.scannable]
theorem upd_same {h : Heap} {S : Addr} {o : Obj} {f : Obj → Obj} (ho : h.get? S = some o) (hf : (f o).isFreed = false) : (h.update S f).get? S = some (f o) ∧ Heap.SameBut S h (h.update S f) :=
  ⟨Heap.get?_update_self _ ho hf, Heap.SameBut.update ..⟩

/-- the first tuple -/
theorem add_first {ks : List Int} {S a : Addr} {led : Bool} (hu : A.units < cLine) (hS : s.heap.get? S = some (freshSet led)) (hk : IsTupleKey (intKind prog w) s.heap ks a) :
    wpAny (model prog w) A (setAdd S (.ref a)) (fun _ s' => ∃ h' tk, s' = { s with heap := h', toks := tk } ∧ Heap.SameBut S s.heap h' ∧
      h'.get? S = some (setObj #[((tupleKind (intKind prog w)).hash ks, .ref a)] 1 (oneT (SetTable.bits ((tupleKind (intKind prog w)).hash ks) % 8) led true))) E s := by
  unfold setAdd
  refine wpAny_holding (wpAny_bind ((tupleKind (intKind prog w)).pyHash hu hk ?_))
  generalize hh : (tupleKind (intKind prog w)).hash ks = h1
  have hk' : IsTupleKey (intKind prog w) (Shared.heap { s with toks := s.toks + (tupleKind (intKind prog w)).draws ks }) ks a := hk
  generalize hs1 : ({ s with toks := s.toks + (tupleKind (intKind prog w)).draws ks } : Shared) = s1 at hk'
  have hS1 : s1.heap.get? S = some (freshSet led) := by rw [← hs1]; exact hS
  have e1 : ∀ h' tk, ({ s1 with heap := h', toks := tk } : Shared) = { s with heap := h', toks := tk } := fun h' tk => by rw [← hs1]
  have e2 : s1.heap = s.heap := by rw [← hs1]
  unfold setAddHashed setAddHashedIn
  refine wpAny_holding (wpAny_bind (wpAny_setState_of hS1 rfl rfl ?_))
  dsimp only
  rw [notScan]
  simp only [Bool.false_eq_true, if_false]
  unfold setSearch setSearchFrom
  refine wpAny_bind (wpAny_bind (wpAny_setState_of hS1 rfl rfl ?_))
  dsimp only
  rw [if_neg (by simp [SetTable.gaveWay, SetTable.fresh]), Option.getD_none, probe_none]
  dsimp only
  refine wpAny_pure ?_
  dsimp only
  refine wpAny_bind (wpAny_setState_of hS1 rfl rfl ?_)
  dsimp only
  have hput : (SetTable.fresh 0 0 led).put (SetTable.bits h1 % 8) = (oneT (SetTable.bits h1 % 8) led true, 0) := by
    unfold SetTable.put oneT SetTable.fresh SetTable.below SetTable.has SetTable.insertAt SetTable.below
    simp [SetTable.below.go]
  rw [hput]
  dsimp only
  rw [if_pos (show (oneT (SetTable.bits h1 % 8) led true).plain = true from rfl)]
  refine wpAny_bind (hashByValue_tuple hk' ?_)
  rw [if_pos rfl]
  refine wpAny_bind (wpAny_storeSet_of hS1 rfl ?_ (by rw [show sizeLine = 2 ^ 24 from rfl]; simp [SetTable.insertAt]))
  have hfull : ((oneT (SetTable.bits h1 % 8) led true).tooFull) = false := by simp [SetTable.tooFull, SetTable.fill, oneT]
  rw [hfull]
  simp only [Bool.and_false, Bool.false_eq_true, if_false]
  refine wpAny_pure ?_
  have hi : SetTable.insertAt (#[] : Array (Int × Value)) 0 (h1, Value.ref a) = #[(h1, Value.ref a)] := by simp [SetTable.insertAt]
  rw [hi]
  have hp : Obj.putSet #[(h1, Value.ref a)] (oneT (SetTable.bits h1 % 8) led true) (freshSet led) = setObj #[(h1, .ref a)] 1 (oneT (SetTable.bits h1 % 8) led true) := putSet_of (o := freshSet led) _ _ rfl
  obtain ⟨g1, g2⟩ := upd_same (f := Obj.putSet #[(h1, Value.ref a)] (oneT (SetTable.bits h1 % 8) led true)) hS1 (by rw [hp]; rfl)
  refine ⟨_, s1.toks, e1 _ _, by rw [← e2]; exact g2, ?_⟩
  rw [g1, hp]

/-- the second tuple -/
theorem search_second {ks ks' : List Int} {S a b : Addr} {led : Bool} {j0 : Nat} (hu : A.units < cLine) (hne : ks ≠ ks')
    (hS : s.heap.get? S = some (setObj #[((tupleKind (intKind prog w)).hash ks, .ref a)] 1 (oneT j0 led true))) (hk : IsTupleKey (intKind prog w) s.heap ks a) (hk' : IsTupleKey (intKind prog w) s.heap ks' b) :
    ∀ (n : Nat) (p : SetTable.Probe) (stand : Option SetTable.Probe) (fuel : Nat), stand.getD ((oneT j0 led true).probeStart ((tupleKind (intKind prog w)).hash ks')) = p → Pr p → p.perturb < 32 ^ n → n + 2 ≤ fuel → n ≤ 13 →
      wpAny (model prog w) A (setSearchFrom S (.ref b) ((tupleKind (intKind prog w)).hash ks') true fuel stand) (fun r s' => ∃ j, r = .free j false ∧ s' = s) E s
  | n, p, stand, 0, _, hp, _, hf, _ => by omega
  | n, p, stand, fuel + 1, hst, hp, hlt, hf, hn => by
    unfold setSearchFrom
    refine wpAny_bind (wpAny_setState_of hS rfl rfl ?_)
    dsimp only
    rw [if_neg (by simp [SetTable.gaveWay, oneT]), hst]
    by_cases hh : (tupleKind (intKind prog w)).hash ks = (tupleKind (intKind prog w)).hash ks'
    · by_cases hj : p.j = j0
      · rw [probe_live j0 led true _ _ p hp hj hh]
        dsimp only
        have nxt : wpAny (model prog w) A (do
            let some (_, y) := (#[((tupleKind (intKind prog w)).hash ks, Value.ref a)] : Array (Int × Value))[0]? | (unsupported "internal:set-entry" : Sem SetFound)
            let equal ← holding [y] (eqBool y (.ref b))
            let (es', _, t') ← setState S
            if true && equal then return .there none
            let some same := t'.sameMemory (oneT j0 led true).moves (oneT j0 led true).mask | unsupported "set.changed-during-lookup:is-the-new-block-at-the-old-address"
            let still ← match (if same then t'.slot j0 else .empty) with
              | .live i' => match es'[i']? with
                | some (_, y') => do pure (if ← isSame y' y then some i' else none)
                | none => pure none
              | _ => pure none
            match still with
            | none => rule "set.search.anew"; setSearchFrom S (.ref b) ((tupleKind (intKind prog w)).hash ks') true fuel none
            | some i' => if equal then return .there (some i') else setSearchFrom S (.ref b) ((tupleKind (intKind prog w)).hash ks') true fuel (some ((oneT j0 led true).advance p))) (fun r s' => ∃ j, r = .free j false ∧ s' = s) E s := by
          simp only [List.getElem?_toArray, List.getElem?_cons_zero]
          refine wpAny_bind (wpAny_holding (wpAny_eqBool_tuple hu hk hk' ?_))
          rw [decide_eq_false hne]
          refine wpAny_bind (wpAny_setState_of hS rfl rfl ?_)
          dsimp only
          simp only [Bool.and_false, Bool.false_eq_true, if_false]
          rw [show (oneT j0 led true).sameMemory (oneT j0 led true).moves (oneT j0 led true).mask = some true from rfl]
          dsimp only
          simp only [if_true]
          rw [slot_one, if_pos rfl]
          dsimp only
          simp only [List.getElem?_toArray, List.getElem?_cons_zero]
          refine wpAny_bind (wpAny_isSame_ref_self ?_)
          refine wpAny_bind (wpAny_pure ?_)
          simp only [if_true]
          obtain ⟨h1, h2, h3⟩ := hp.adv (j0 := j0) (led := led) (pl := true)
          cases n with
          | zero =>
            obtain ⟨fuel, rfl⟩ : ∃ k, fuel = k + 1 := ⟨fuel - 1, by omega⟩
            have hz : p.perturb = 0 := by simpa using hlt
            unfold setSearchFrom
            refine wpAny_bind (wpAny_setState_of hS rfl rfl ?_)
            dsimp only
            rw [if_neg (by simp [SetTable.gaveWay, oneT]), Option.getD_some]
            rw [probe_free j0 led true _ _ _ h1 (by rw [h3, hz, ← hj, hp.ji]; have := hp.lt; omega)]
            dsimp only
            exact wpAny_pure ⟨_, rfl, rfl⟩
          | succ n =>
            exact search_second hu hne hS hk hk' n _ (some _) fuel rfl h1 (by show ((oneT j0 led true).advance p).perturb < _; rw [h2]; rw [Nat.pow_succ] at hlt; omega) (by omega) (by omega)
        by_cases hl : led = true
        · rw [if_neg (by simp [oneT, hl])]
          exact nxt
        · rw [if_pos (by simp [oneT, hl])]
          have hfl : ((#[((tupleKind (intKind prog w)).hash ks, Value.ref a)] : Array (Int × Value)).filter (·.1 == (tupleKind (intKind prog w)).hash ks')).toList.map (·.2) = [.ref a] := by
            rw [hh]; simp
          rw [hfl]
          refine wpAny_bind (seen_tuple hk' hk ?_)
          simp only [Bool.false_eq_true, if_false]
          exact nxt
      · rw [probe_free j0 led true _ _ p hp hj]
        dsimp only
        exact wpAny_pure ⟨_, rfl, rfl⟩
    · obtain ⟨j, e⟩ := go_apart j0 led true (fun i => ((#[((tupleKind (intKind prog w)).hash ks, Value.ref a)] : Array (Int × Value))[i]?.map (·.1)).getD 0) ((tupleKind (intKind prog w)).hash ks') (by simpa using hh) n p 220 hp hlt (by omega)
      have e' : (oneT j0 led true).probe (fun i => ((#[((tupleKind (intKind prog w)).hash ks, Value.ref a)] : Array (Int × Value))[i]?.map (·.1)).getD 0) ((tupleKind (intKind prog w)).hash ks') p = some (.empty j none) := e
      generalize hm : SetTable.probe (oneT j0 led true) _ ((tupleKind (intKind prog w)).hash ks') p = m
      have em : m = some (.empty j none) := hm.symm.trans e'
      subst em
      dsimp only
      exact wpAny_pure ⟨_, rfl, rfl⟩

theorem add_second {ks ks' : List Int} {S a b : Addr} {led : Bool} (hu : A.units < cLine)
    (hS : s.heap.get? S = some (setObj #[((tupleKind (intKind prog w)).hash ks, .ref a)] 1 (oneT (SetTable.bits ((tupleKind (intKind prog w)).hash ks) % 8) led true))) (hk : IsTupleKey (intKind prog w) s.heap ks a) (hk' : IsTupleKey (intKind prog w) s.heap ks' b) :
    wpAny (model prog w) A (setAdd S (.ref b)) (fun _ s' => ∃ h' tk, s' = { s with heap := h', toks := tk } ∧ Heap.SameBut S s.heap h' ∧
      ∃ es ep t, h'.get? S = some (setObj es ep t) ∧ t.fits es.size = true ∧ es.size = if ks = ks' then 1 else 2) E s := by
  unfold setAdd
  refine wpAny_holding (wpAny_bind ((tupleKind (intKind prog w)).pyHash hu hk' ?_))
  have hS' : (Shared.heap { s with toks := s.toks + (tupleKind (intKind prog w)).draws ks' }).get? S = some (setObj #[((tupleKind (intKind prog w)).hash ks, .ref a)] 1 (oneT (SetTable.bits ((tupleKind (intKind prog w)).hash ks) % 8) led true)) := hS
  have hka : IsTupleKey (intKind prog w) (Shared.heap { s with toks := s.toks + (tupleKind (intKind prog w)).draws ks' }) ks a := hk
  have hkb : IsTupleKey (intKind prog w) (Shared.heap { s with toks := s.toks + (tupleKind (intKind prog w)).draws ks' }) ks' b := hk'
  generalize hs1 : ({ s with toks := s.toks + (tupleKind (intKind prog w)).draws ks' } : Shared) = s1 at hS' hka hkb
  have e1 : ∀ h' tk, ({ s1 with heap := h', toks := tk } : Shared) = { s with heap := h', toks := tk } := fun h' tk => by rw [← hs1]
  have e0 : s1 = { s1 with heap := s1.heap, toks := s1.toks } := rfl
  have e2 : s1.heap = s.heap := by rw [← hs1]
  unfold setAddHashed setAddHashedIn
  refine wpAny_holding (wpAny_bind (wpAny_setState_of hS' rfl rfl ?_))
  dsimp only
  rw [notScan]
  simp only [Bool.false_eq_true, if_false]
  by_cases heq : ks = ks'
  · subst heq
    unfold setSearch setSearchFrom
    refine wpAny_bind (wpAny_bind (wpAny_setState_of hS' rfl rfl ?_))
    dsimp only
    rw [if_neg (by simp [SetTable.gaveWay, oneT]), Option.getD_none]
    obtain ⟨p1, p2, p3⟩ := start_pr (SetTable.bits ((tupleKind (intKind prog w)).hash ks) % 8) led true ((tupleKind (intKind prog w)).hash ks)
    rw [probe_live _ led true _ ((tupleKind (intKind prog w)).hash ks) _ p1 p2 rfl]
    dsimp only
    have nxt : wpAny (model prog w) A (do
        let equal ← holding [.ref a] (eqBool (.ref a) (.ref b))
        let (es', _, t') ← setState S
        if true && equal then return SetFound.there none
        let some same := t'.sameMemory (oneT (SetTable.bits ((tupleKind (intKind prog w)).hash ks) % 8) led true).moves (oneT (SetTable.bits ((tupleKind (intKind prog w)).hash ks) % 8) led true).mask | unsupported "set.changed-during-lookup:is-the-new-block-at-the-old-address"
        let still ← match (if same then t'.slot (SetTable.bits ((tupleKind (intKind prog w)).hash ks) % 8) else .empty) with
          | .live i' => match es'[i']? with
            | some (_, y') => do pure (if ← isSame y' (.ref a) then some i' else none)
            | none => pure none
          | _ => pure none
        match still with
        | none => rule "set.search.anew"; setSearchFrom S (.ref b) ((tupleKind (intKind prog w)).hash ks) true 99999 none
        | some i' => if equal then return .there (some i') else setSearchFrom S (.ref b) ((tupleKind (intKind prog w)).hash ks) true 99999 (some ((oneT (SetTable.bits ((tupleKind (intKind prog w)).hash ks) % 8) led true).advance ((oneT (SetTable.bits ((tupleKind (intKind prog w)).hash ks) % 8) led true).probeStart ((tupleKind (intKind prog w)).hash ks))))) (fun r s' => r = .there none ∧ s' = s1) E s1 := by
      refine wpAny_bind (wpAny_holding (wpAny_eqBool_tuple hu hka hkb ?_))
      rw [decide_eq_true rfl]
      refine wpAny_bind (wpAny_setState_of hS' rfl rfl ?_)
      dsimp only
      simp only [Bool.and_self, if_true]
      exact wpAny_pure ⟨rfl, rfl⟩
    have fin : ∃ h' tk, s1 = { s with heap := h', toks := tk } ∧ Heap.SameBut S s.heap h' ∧ ∃ es ep t, h'.get? S = some (setObj es ep t) ∧ t.fits es.size = true ∧ es.size = if ks = ks then 1 else 2 :=
      ⟨s1.heap, s1.toks, e1 _ _, by rw [e2]; exact .refl .., _, _, _, hS', rfl, by simp⟩
    by_cases hl : led = true
    · rw [if_neg (by simp [oneT, hl])]
      exact wpAny_mono nxt (fun r s' ⟨e, e'⟩ => by subst e e'; exact wpAny_pure (by simpa using fin)) fun _ _ f => f
    · rw [if_pos (by simp [oneT, hl])]
      have hfl : ((#[((tupleKind (intKind prog w)).hash ks, Value.ref a)] : Array (Int × Value)).filter (·.1 == (tupleKind (intKind prog w)).hash ks)).toList.map (·.2) = [.ref a] := by
        simp
      rw [hfl]
      refine wpAny_bind (seen_tuple hkb hka ?_)
      simp only [Bool.false_eq_true, if_false]
      exact wpAny_mono nxt (fun r s' ⟨e, e'⟩ => by subst e e'; exact wpAny_pure (by simpa using fin)) fun _ _ f => f
  · unfold setSearch
    obtain ⟨p1, p2, p3⟩ := start_pr (SetTable.bits ((tupleKind (intKind prog w)).hash ks) % 8) led true ((tupleKind (intKind prog w)).hash ks')
    refine wpAny_bind (wpAny_mono (search_second hu heq hS' hka hkb 13 _ none 100000 rfl p1 (by rw [Option.getD_none, p3]; exact bits_lt _) (by omega) (Nat.le_refl _)) ?_ fun _ _ f => f)
    rintro r s' ⟨j, rfl, rfl⟩
    dsimp only
    refine wpAny_bind (wpAny_setState_of hS' rfl rfl ?_)
    dsimp only
    have hput : ∀ j0 : Nat, ∃ q pl, (oneT j0 led true).put j = (({ oneT j0 led true with place := pl } : SetTable), q) ∧ pl.size = 2 ∧ ∀ y : Int × Value, ∀ e : Int × Value, (SetTable.insertAt #[e] q y).size = 2 := fun j0 => by
      refine ⟨SetTable.below #[j0] j, SetTable.insertAt #[j0] (SetTable.below #[j0] j) j, by simp [SetTable.put, oneT, SetTable.has, SetTable.below, SetTable.below.go], ?_, fun y e => ?_⟩
      · by_cases h1 : j0 < j <;> simp [SetTable.insertAt, SetTable.below, SetTable.below.go, h1]
      · by_cases h1 : j0 < j <;> simp [SetTable.insertAt, SetTable.below, SetTable.below.go, h1]
    obtain ⟨q, pl, e3, e4, e5⟩ := hput (SetTable.bits ((tupleKind (intKind prog w)).hash ks) % 8)
    rw [e3]
    dsimp only
    rw [if_pos (show ({ oneT (SetTable.bits ((tupleKind (intKind prog w)).hash ks) % 8) led true with place := pl } : SetTable).plain = true from rfl)]
    refine wpAny_bind (hashByValue_tuple hkb ?_)
    rw [if_pos rfl]
    refine wpAny_bind (wpAny_storeSet_of hS' rfl ?_ (by rw [e5]; decide))
    have hfull : ({ oneT (SetTable.bits ((tupleKind (intKind prog w)).hash ks) % 8) led true with place := pl } : SetTable).tooFull = false := by simp [SetTable.tooFull, SetTable.fill, oneT, e4]
    rw [hfull]
    simp only [Bool.and_false, Bool.false_eq_true, if_false]
    refine wpAny_pure ?_
    generalize hes : SetTable.insertAt #[((tupleKind (intKind prog w)).hash ks, Value.ref a)] q ((tupleKind (intKind prog w)).hash ks', Value.ref b) = es2
    have hes2 : es2.size = 2 := by rw [← hes]; exact e5 _ _
    have hp : Obj.putSet es2 { oneT (SetTable.bits ((tupleKind (intKind prog w)).hash ks) % 8) led true with place := pl } (setObj #[((tupleKind (intKind prog w)).hash ks, .ref a)] 1 (oneT (SetTable.bits ((tupleKind (intKind prog w)).hash ks) % 8) led true)) = setObj es2 2 { oneT (SetTable.bits ((tupleKind (intKind prog w)).hash ks) % 8) led true with place := pl } :=
      putSet_of (o := setObj #[((tupleKind (intKind prog w)).hash ks, .ref a)] 1 (oneT (SetTable.bits ((tupleKind (intKind prog w)).hash ks) % 8) led true)) _ _ rfl
    obtain ⟨g1, g2⟩ := upd_same (f := Obj.putSet es2 { oneT (SetTable.bits ((tupleKind (intKind prog w)).hash ks) % 8) led true with place := pl }) hS' (by rw [hp]; rfl)
    refine ⟨_, s'.toks, e1 _ _, by rw [← e2]; exact g2, es2, 2, { oneT (SetTable.bits ((tupleKind (intKind prog w)).hash ks) % 8) led true with place := pl }, ?_, ?_, by rw [if_neg heq]; exact hes2⟩
    · rw [g1, hp]
    · simp [SetTable.fits, e4, hes2, SetTable.fill, oneT]
end
end Mine

namespace Mine
open PySem PySem.W PySem.Calls PyProof.Rows

section
variable {prog : Program} {w : World} {A : Around} {E : Value → Shared → Prop} {s : Shared}

theorem set_loop_two {S I t : Addr} {v1 v2 : Value} {R : Result → Shared → Prop} {Mid Fin : Heap → Prop} (hSI : S ≠ I) (hSt : S ≠ t) (htI : t ≠ I) (hh : A.handled = none)
    (hit : s.heap.IsTupleIter I t 0) (ht : s.heap.IsTuple t #[v1, v2])
    (hMid : ∀ h h', Mid h → Heap.SameBut I h h' → Mid h') (hFin : ∀ h h', Fin h → Heap.ExtBut I h h' → Fin h')
    (a1 : ∀ s1 : Shared, Heap.SameBut I s.heap s1.heap → wpAny (model prog w) A.in1 (setAdd S v1) (fun _ s' => ∃ h' tk, s' = { s1 with heap := h', toks := tk } ∧ Heap.SameBut S s1.heap h' ∧ Mid h') NoE s1)
    (a2 : ∀ s1 : Shared, Mid s1.heap → wpAny (model prog w) A.in1 (setAdd S v2) (fun _ s' => ∃ h' tk, s' = { s1 with heap := h', toks := tk } ∧ Heap.SameBut S s1.heap h' ∧ Fin h') NoE s1)
    (k : ∀ h' tk, Fin h' → (∀ b o, b ≠ I → b ≠ S → s.heap.get? b = some o → h'.get? b = some o) → R (.ok (.ret .none)) { s with heap := h', toks := tk }) :
    codeAny (model prog w) A (.builtin "set.update.loop" ⟨[.ref S, .ref I], []⟩) R s := by
  refine codeAny_builtin PyProof.Rows.F.entry_set_update_loop ?_
  rw [Around.under_plainId PyProof.Rows.F.plain_set_update_loop _]
  show wpAny _ A.in1 (pyNext (.ref I) >>= _) _ _ s
  refine wpAny_bind (wpAny_pyNext_tuple_item hit ht rfl fun h1 hit1 hs1 => ?_)
  replace hs1 : Heap.SameBut I s.heap h1 := hs1
  have ht1 : h1.IsTuple t #[v1, v2] := ht.extBut hs1.extBut htI
  dsimp only
  refine wpAny_bind (wpAny_holding (wpAny_mono (a1 { s with heap := h1 } hs1) ?_ fun _ _ f => f.elim))
  rintro _ s2 ⟨h2, tk2, rfl, hs2, hM⟩
  replace hs2 : Heap.SameBut S h1 h2 := hs2
  refine wpAny_pure ⟨plainId_quiet PyProof.Rows.F.plain_set_update_loop _, ?_⟩
  refine codeAny_builtin PyProof.Rows.F.entry_set_update_loop ?_
  rw [Around.under_plainId PyProof.Rows.F.plain_set_update_loop _]
  show wpAny _ A.in1 (pyNext (.ref I) >>= _) _ _ _
  have ht2 : h2.IsTuple t #[v1, v2] := ht1.extBut hs2.extBut (Ne.symm hSt)
  have hit2 : h2.IsTupleIter I t 1 := hit1.extBut hs2.extBut (Ne.symm hSI)
  refine wpAny_bind (wpAny_pyNext_tuple_item (s := { s with heap := h2, toks := tk2 }) hit2 ht2 rfl fun h3 hit3 hs3 => ?_)
  replace hs3 : Heap.SameBut I h2 h3 := hs3
  have ht3 : h3.IsTuple t #[v1, v2] := ht2.extBut hs3.extBut htI
  dsimp only
  refine wpAny_bind (wpAny_holding (wpAny_mono (a2 { s with heap := h3, toks := tk2 } (hMid _ _ hM hs3)) ?_ fun _ _ f => f.elim))
  rintro _ s4 ⟨h4, tk4, rfl, hs4, hF⟩
  replace hs4 : Heap.SameBut S h3 h4 := hs4
  refine wpAny_pure ⟨plainId_quiet PyProof.Rows.F.plain_set_update_loop _, ?_⟩
  refine codeAny_builtin PyProof.Rows.F.entry_set_update_loop ?_
  rw [Around.under_plainId PyProof.Rows.F.plain_set_update_loop _]
  show wpAny _ A.in1 (pyNext (.ref I) >>= _) _ _ _
  have ht4 : h4.IsTuple t #[v1, v2] := ht3.extBut hs4.extBut (Ne.symm hSt)
  have hit4 : h4.IsTupleIter I t 2 := hit3.extBut hs4.extBut (Ne.symm hSI)
  refine wpAny_bind (wpAny_pyNext_tuple_end (s := { s with heap := h4, toks := tk4 }) (by simpa using hh) hit4 ht4 rfl fun h5 hx5 => ?_)
  replace hx5 : Heap.ExtBut I h4 h5 := hx5
  dsimp only
  refine wpAny_pure (k h5 tk4 (hFin _ _ hF hx5) fun b o h1 h2 e => ?_)
  exact hx5 b o h1 (hs4.extBut b o h2 (hs3.extBut b o h1 (hs2.extBut b o h2 (hs1.extBut b o h1 e))))

/-- a key of a set of two: an int, or a tuple of ints -/
theorem set_two_int {t : Addr} {i j : Int} {u v : Tok} {Q : Value → Shared → Prop} (hh : A.handled = none) (ht : s.heap.IsTuple t #[.int i u, .int j v])
    (k : ∀ h' tk es ep tb, h'.get? s.heap.objs.size = some (setObj es ep tb) → tb.fits es.size = true → es.size = (if i = j then 1 else 2) → Ext s.heap h' → Q (.ref s.heap.objs.size) { s with heap := h', toks := tk }) :
    wpAny (model prog w) A (call (.type "set") [.ref t]) Q E s := by
  have htl : t < s.heap.objs.size := by obtain ⟨o, ho, _⟩ := ht; exact Heap.lt_size ho
  refine call_set_open ht fun A' led hA' hu' => ?_
  have hz : (s.heap.push (freshSet led)).objs.size = s.heap.objs.size + 1 := Heap.size_push ..
  have hIt : (setIter s.heap t led).IsTupleIter (s.heap.objs.size + 1) t 0 := ⟨_, by rw [← hz]; exact Heap.get?_push_size _ rfl, rfl, rfl⟩
  have hT : (setIter s.heap t led).IsTuple t #[.int i u, .int j v] := (ht.push _).push _
  have hS : (setIter s.heap t led).get? s.heap.objs.size = some (freshSet led) := Heap.get?_push_of_some _ (Heap.get?_push_size _ rfl)
  refine set_loop_two (s := { s with heap := setIter s.heap t led }) (Mid := fun h => h.SetOf (intKind prog w) s.heap.objs.size (fun k => false || decide (k = i)) 1)
    (Fin := fun h => h.SetOf (intKind prog w) s.heap.objs.size (fun k => (false || decide (k = i)) || decide (k = j)) (if i = j then 1 else 2))
    (Nat.ne_of_lt (Nat.lt_succ_self _)) (Nat.ne_of_gt htl) (Nat.ne_of_lt (Nat.lt_succ_of_lt htl)) (by rw [hA']; exact hh) hIt hT ?_ ?_ ?_ ?_ ?_
  · rintro h h' ⟨o, es, ep, tb, ho, r⟩ hs
    exact ⟨o, es, ep, tb, (hs.2 _ (Nat.ne_of_lt (Nat.lt_succ_self _))).trans ho, r⟩
  · rintro h h' ⟨o, es, ep, tb, ho, r⟩ hs
    exact ⟨o, es, ep, tb, hs _ _ (Nat.ne_of_lt (Nat.lt_succ_self _)) ho, r⟩
  · intro s1 hs1
    have hS1 : s1.heap.SetOf (intKind prog w) s.heap.objs.size (fun _ => false) 0 := (setObjOf_fresh (knd := intKind prog w) led).setOf ((hs1.2 _ (Nat.ne_of_lt (Nat.lt_succ_self _))).trans hS) (by unfold scanBound; omega)
    unfold setAdd
    refine wpAny_holding (wpAny_bind ((intKind prog w).pyHash (k := i) (intKind_is _ _ _ _) ?_))
    refine wpAny_setAddHashed_of (knd := intKind prog w) (s := { s1 with toks := s1.toks + 1 }) (intKind_is _ _ _ _) rfl hS1 (by unfold scanBound; omega) fun h' hsb hS2 => ?_
    exact ⟨h', s1.toks + 1, rfl, hsb, hS2⟩
  · intro s1 hS1
    unfold setAdd
    refine wpAny_holding (wpAny_bind ((intKind prog w).pyHash (k := j) (intKind_is _ _ _ _) ?_))
    refine wpAny_setAddHashed_of (knd := intKind prog w) (s := { s1 with toks := s1.toks + 1 }) (intKind_is _ _ _ _) rfl hS1 (by unfold scanBound; omega) fun h' hsb hS2 => ?_
    refine ⟨h', s1.toks + 1, rfl, hsb, ?_⟩
    have : (if (false || decide (j = i)) = true then 1 else 1 + 1) = if i = j then 1 else 2 := by
      by_cases h : i = j
      · subst h; simp
      · simp [h, Ne.symm h]
    rw [this] at hS2; exact hS2
  · rintro h' tk ⟨o, es, ep, tb, ho, hex, hd, hel, hm, hb, hf, hn⟩ hk
    obtain ⟨c, d, dt, sl⟩ := o
    obtain ⟨e1, e2, e3⟩ := hex
    simp only at e1 e2 e3 hd
    subst e1 e2 e3 hd
    refine ⟨rfl, h', tk, rfl, k h' tk es ep tb ho hf hn fun b o e => ?_⟩
    have hl := Heap.lt_size e
    exact hk b o (Nat.ne_of_lt (Nat.lt_succ_of_lt hl)) (Nat.ne_of_lt hl) (Heap.get?_push_of_some _ (Heap.get?_push_of_some _ e))
theorem set_two_tup {t a b : Addr} {x y : List Int} {Q : Value → Shared → Prop} (hh : A.handled = none) (hu : A.units + 10 < cLine) (ht : s.heap.IsTuple t #[.ref a, .ref b]) (ha : IsTupleKey (intKind prog w) s.heap x a) (hb : IsTupleKey (intKind prog w) s.heap y b)
    (k : ∀ h' tk es ep tb, h'.get? s.heap.objs.size = some (setObj es ep tb) → tb.fits es.size = true → es.size = (if x = y then 1 else 2) → Ext s.heap h' → Q (.ref s.heap.objs.size) { s with heap := h', toks := tk }) :
    wpAny (model prog w) A (call (.type "set") [.ref t]) Q E s := by
  have htl : t < s.heap.objs.size := by obtain ⟨o, ho, _⟩ := ht; exact Heap.lt_size ho
  have hal : a < s.heap.objs.size := by obtain ⟨o, _, _, ho, _⟩ := ha; exact Heap.lt_size ho
  have hbl : b < s.heap.objs.size := by obtain ⟨o, _, _, ho, _⟩ := hb; exact Heap.lt_size ho
  have hku : ∀ {h h' : Heap} {ks : List Int} {c : Addr}, IsTupleKey (intKind prog w) h ks c → (∀ o, h.get? c = some o → h'.get? c = some o) → IsTupleKey (intKind prog w) h' ks c := fun ⟨o, it, n, ho, r⟩ hk => ⟨o, it, n, hk _ ho, r⟩
  refine call_set_open ht fun A' led hA' hu' => ?_
  have hz : (s.heap.push (freshSet led)).objs.size = s.heap.objs.size + 1 := Heap.size_push ..
  have hIt : (setIter s.heap t led).IsTupleIter (s.heap.objs.size + 1) t 0 := ⟨_, by rw [← hz]; exact Heap.get?_push_size _ rfl, rfl, rfl⟩
  have hT : (setIter s.heap t led).IsTuple t #[.ref a, .ref b] := (ht.push _).push _
  have hS : (setIter s.heap t led).get? s.heap.objs.size = some (freshSet led) := Heap.get?_push_of_some _ (Heap.get?_push_size _ rfl)
  have hx : Ext s.heap (setIter s.heap t led) := (Ext.push _ _).trans (Ext.push _ _)
  have hSI : s.heap.objs.size ≠ s.heap.objs.size + 1 := Nat.ne_of_lt (Nat.lt_succ_self _)
  have hu2 : A'.in1.units < cLine := by simp only [Around.in1]; omega
  refine set_loop_two (s := { s with heap := setIter s.heap t led })
    (Mid := fun h => h.get? s.heap.objs.size = some (setObj #[((tupleKind (intKind prog w)).hash x, .ref a)] 1 (oneT (SetTable.bits ((tupleKind (intKind prog w)).hash x) % 8) led true)) ∧ IsTupleKey (intKind prog w) h x a ∧ IsTupleKey (intKind prog w) h y b)
    (Fin := fun h => ∃ es ep tb, h.get? s.heap.objs.size = some (setObj es ep tb) ∧ tb.fits es.size = true ∧ es.size = if x = y then 1 else 2)
    hSI (Nat.ne_of_gt htl) (Nat.ne_of_lt (Nat.lt_succ_of_lt htl)) (by rw [hA']; exact hh) hIt hT ?_ ?_ ?_ ?_ ?_
  · rintro h h' ⟨h1, h2, h3⟩ hs
    exact ⟨(hs.2 _ hSI).trans h1, hku h2 fun o e => hs.extBut a o (Nat.ne_of_lt (Nat.lt_succ_of_lt hal)) e, hku h3 fun o e => hs.extBut b o (Nat.ne_of_lt (Nat.lt_succ_of_lt hbl)) e⟩
  · rintro h h' ⟨es, ep, tb, h1, r⟩ hs
    exact ⟨es, ep, tb, hs _ _ hSI h1, r⟩
  · intro s1 hs1
    have ha1 : IsTupleKey (intKind prog w) s1.heap x a := hku ha fun o e => hs1.extBut a o (Nat.ne_of_lt (Nat.lt_succ_of_lt hal)) (hx a o e)
    have hb1 : IsTupleKey (intKind prog w) s1.heap y b := hku hb fun o e => hs1.extBut b o (Nat.ne_of_lt (Nat.lt_succ_of_lt hbl)) (hx b o e)
    refine wpAny_mono (add_first (led := led) hu2 ((hs1.2 _ hSI).trans hS) ha1) (fun _ s' ⟨h', tk, e, hsb, g⟩ => ⟨h', tk, e, hsb, g, hku ha1 fun o e => hsb.extBut a o (Nat.ne_of_lt hal) e, hku hb1 fun o e => hsb.extBut b o (Nat.ne_of_lt hbl) e⟩) fun _ _ f => f
  · rintro s1 ⟨h1, h2, h3⟩
    exact add_second hu2 h1 h2 h3
  · rintro h' tk ⟨es, ep, tb, ho, hf, hn⟩ hk
    refine ⟨rfl, h', tk, rfl, k h' tk es ep tb ho hf hn fun b o e => ?_⟩
    have hl := Heap.lt_size e
    exact hk b o (Nat.ne_of_lt (Nat.lt_succ_of_lt hl)) (Nat.ne_of_lt hl) (hx b o e)
end
end Mine

namespace Mine
open PySem PySem.W PySem.Calls PyProof.Rows

/-- an item: an int or a tuple of ints -/
inductive ItemD : D → D → Bool → Prop
  | int (i j : Int) : ItemD (.int i) (.int j) (decide (i = j))
  | tup (x y : List Int) : ItemD (.tup (x.map .int)) (.tup (y.map .int)) (decide (x = y))

section
variable {X : Cx} {A : Around} {g : Heap} {env : Env} {ρ : Rho} {σ : Sig} {E : Value → Shared → Prop}

theorem X1.tryOk {body orelse : List Stmt} {h₀ : ExceptHandler} {hs : List ExceptHandler} {pos : Pos} {Q : AF → Rho → Sig → Prop}
    (H : Xs X A g env ρ σ body (fun f ρ' σ' => match f with | .nxt => Xs X A g env ρ' σ' orelse Q | f => Q f ρ' σ')) : X1 X A g env ρ σ (.Try body (h₀ :: hs) orelse [] pos) Q := fun s S => by
  refine wpAny_Try_except (wpAny_mono (H s S) ?_ fun _ _ f => f.elim)
  rintro f s₁ ⟨af, ρ', σ', h', tk, rfl, x, y, z, q⟩
  cases af with
  | nxt => simp only [FR] at z; subst z; exact wpAny_mono (q _ x) (fun f s' p => PX.lift y p) fun _ _ f => f
  | brk => simp only [FR] at z; subst z; exact .mk .brk ρ' σ' x y rfl q
  | cont => simp only [FR] at z; subst z; exact .mk .cont ρ' σ' x y rfl q
  | ret r => obtain ⟨v, rfl, hv⟩ := z; exact .mk (.ret r) ρ' σ' x y ⟨v, rfl, hv⟩ q

theorem set_two {s : Shared} {t : Addr} {items : Array Value} {d1 d2 : D} {b : Bool} {Q : Value → Shared → Prop} {n : Nat} (hA : Rm n A) (hd : ItemD d1 d2 b) (ht : IsTup s.heap t items) (hv : Vs s.heap [d1, d2] items.toList)
    (k : ∀ h' tk es ep tb a, h'.get? a = some (setObj es ep tb) → tb.fits es.size = true → es.size = (if b then 1 else 2) → Ext s.heap h' → Q (.ref a) { s with heap := h', toks := tk }) :
    wpAny (model X.prog X.w) A (call (.type "set") [.ref t]) Q E s := by
  have hu : A.units + 10 < cLine := by have := hA.units; omega
  cases hd with
  | int i j =>
    simp only [Vs, V] at hv
    obtain ⟨v, ws, e, ⟨u, rfl⟩, v2, ws2, e2, ⟨u2, rfl⟩, e3⟩ := hv
    subst e3 e2
    have hi : items = #[.int i u, .int j u2] := by
      apply Array.ext'; rw [e]
    subst hi
    refine set_two_int hA.handled ht fun h' tk es ep tb h1 h2 h3 h4 => k h' tk es ep tb _ h1 h2 ?_ h4
    rw [h3]; simp
  | tup x y =>
    have hv2 : ∃ v w, items.toList = [v, w] ∧ V s.heap (.tup (x.map .int)) v ∧ V s.heap (.tup (y.map .int)) w := by
      obtain ⟨v, ws, e, h1, h2⟩ := (by simpa only [Vs] using hv : ∃ v ws, items.toList = v :: ws ∧ V s.heap (.tup (x.map .int)) v ∧ ∃ v ws', ws = v :: ws' ∧ V s.heap (.tup (y.map .int)) v ∧ ws' = [])
      obtain ⟨w, ws', e2, h3, e4⟩ := h2
      subst e4 e2
      exact ⟨v, w, e, h1, h3⟩
    obtain ⟨v, w, e, h1, h2⟩ := hv2
    obtain ⟨a, rfl, ha⟩ := key_of_v (prog := X.prog) (w := X.w) h1
    obtain ⟨c, rfl, hc⟩ := key_of_v (prog := X.prog) (w := X.w) h2
    have hi : items = #[.ref a, .ref c] := by
      apply Array.ext'; rw [e]
    subst hi
    refine set_two_tup hA.handled hu ht ha hc fun h' tk es ep tb h1 h2 h3 h4 => k h' tk es ep tb _ h1 h2 ?_ h4
    rw [h3]; simp

/-- len(set(elements)) of two items -/
theorem Ev.lenSet2 {n : Nat} (hA : Rm n A) {l st y : Str} {p1 p2 p3 pos pos2 : Pos} {d1 d2 : D} {b : Bool} {Q : Res → Prop} (hgl : X.mg l = none) (hbl : X.mb l = some (.builtin "len")) (hgs : X.mg st = none) (hbs : X.mb st = some (.type "set"))
    (hl : ρ.lookup y = some (.tup [d1, d2])) (hd : ItemD d1 d2 b) (q : Q (.d (.int (if b then 1 else 2)))) (hv : varOk env y = true := by rfl)
    (hkl : env.kindOf l = some .globalImplicit := by rfl) (hks : env.kindOf st = some .globalImplicit := by rfl) (hdl : (l == ("__debug__" : Str)) = false := by decide) (hds : (st == ("__debug__" : Str)) = false := by decide) :
    Ev X A g env ρ σ (.Call (.Name l p1) [.Call (.Name st p2) [.Name y p3] [] pos2] [] pos) Q := fun s S => by
  have H0 : Ev X A g env ρ σ (.Name l p1) (fun r => r = .d (.val (.builtin "len"))) := Ev.builtin _ hgl hbl rfl hkl hdl
  refine Call_ (Mine.use (H0 s S) S fun v r h1 tk1 S1 x1 y1 e1 => ?_)
  subst e1
  simp only [VR, V] at y1
  subst y1
  refine PyProof.Rows.callWith_builtin1 (args_cons ?_) rfl rfl
  have HE : Es X A g env ρ σ [.Name y p3] (fun rs => rs = [.d (.tup [d1, d2])]) := Es.cons (Ev.name _ hl hv (Es.nil rfl)) rfl
  refine callT_raw (s := { s with heap := h1, toks := tk1 }) hgs hbs HE S1 (fun vs rs h2 tk2 S2 x2 y2 hr => ?_) rfl rfl hks hds
  subst hr
  obtain ⟨v, ws, rfl, hv1, rfl⟩ := y2
  simp only [VR, V] at hv1
  obtain ⟨a, items, rfl, ht, hvs⟩ := hv1
  have ht' : IsTup (Shared.heap { s with heap := h2, toks := tk2 }) a items := ht
  refine set_two (X := X) hA hd ht' hvs fun h' tk es ep tb a h3 h4 h5 h6 => args_nil ?_
  refine call_len_set h3 ⟨rfl, rfl, rfl⟩ rfl h4 (by rw [h5]; split <;> omega) ?_
  refine .mk (.d (.int (if b then 1 else 2))) ((x1.trans x2).trans h6) ?_ q
  simp only [VR, V]
  rw [h5]
  exact ⟨_, by cases b <;> rfl⟩
end
end Mine

namespace Mine
open PySem PySem.W PySem.Calls PyProof.Rows
open AutoSeq1 (wpAny_loadPart')

theorem owner_map : Manifest.owners.lookup (String.ofList ['p', 'a', 'm'].reverse) = some Manifest.sig_map := by kernel_rfl
theorem slot_map_next : Slot "map" "__next__" "map.__next__" :=
  .of (owner := "map") (n := "__next__") (by rw [typeLookup_type, builtinLookup_eq_fast]; kernel_rfl) (by decide +kernel) (by decide +kernel) (by decide +kernel)
    (by first | exact .inl (by decide +kernel) | exact .inr (by decide +kernel)) (by rw [isSubtype_type]; kernel_rfl)
theorem entry_map_next : entryFor table "map.__next__" = some Builtin.«map.__next__» := entryFor_of_tree (by kernel_rfl)
theorem args_map_next_1 (a : Value) : argsOk "map.__next__" ⟨[a], []⟩ := by
  unfold argsOk; rw [signature?_of (id := "map.__next__") (n := ['_', '_', 't', 'x', 'e', 'n', '_', '_']) (o := ['p', 'a', 'm']) (by kernel_rfl) owner_map]; kernel_rfl
theorem slot_map_iter : Slot "map" "__iter__" "map.__iter__" :=
  .of (owner := "map") (n := "__iter__") (by rw [typeLookup_type, builtinLookup_eq_fast]; kernel_rfl) (by decide +kernel) (by decide +kernel) (by decide +kernel)
    (by first | exact .inl (by decide +kernel) | exact .inr (by decide +kernel)) (by rw [isSubtype_type]; kernel_rfl)
theorem args_map_iter_1 (a : Value) : argsOk "map.__iter__" ⟨[a], []⟩ := by
  unfold argsOk; rw [signature?_of (id := "map.__iter__") (n := ['_', '_', 'r', 'e', 't', 'i', '_', '_']) (o := ['p', 'a', 'm']) (by kernel_rfl) owner_map]; kernel_rfl
theorem slot_map_init : Slot "map" "__init__" "object.__init__" :=
  .of (owner := "object") (n := "__init__") (by rw [typeLookup_type, builtinLookup_eq_fast]; kernel_rfl) (by decide +kernel) (by decide +kernel) (by decide +kernel)
    (by first | exact .inl (by decide +kernel) | exact .inr (by decide +kernel)) (by rw [isSubtype_type]; kernel_rfl)
theorem entry_map_iter : entryFor table "map.__iter__" = some Builtin.«dict_keyiterator.__iter__» :=
  entryFor_alias (id' := "dict_keyiterator.__iter__") (by kernel_rfl) (by first | rfl | decide +kernel | (unfold String.splitOn; simp +decide [String.splitOnAux])) (by decide +kernel) (by kernel_rfl)
theorem mro_map : mroOf (.type "map") = pure [.type "map", .type "object"] := by rw [mroOf_type]; kernel_rfl
theorem lookup_map_new : typeLookup (.type "map") "__new__" = pure (some (.builtin "map.__new__")) := by rw [typeLookup_type, builtinLookup_eq_fast]; kernel_rfl
theorem called_map : TypeCalled "map" "map.__new__" "object.__init__" :=
  ⟨by decide +kernel, by decide +kernel, ⟨_, _, mro_map⟩, madeBy_type mro_map lookup_map_new (by decide +kernel), by decide +kernel, by rw [isSubtype_type]; kernel_rfl, slot_map_init⟩
theorem typeCall_map_2 (a b : Value) : checkTypeCall "map" ⟨[a, b], []⟩ = pure () := by kernel_rfl
theorem newCall_map_2 (a b : Value) : checkBuiltinCall "map.__new__" ⟨[.type "map", a, b], []⟩ = pure () := by kernel_rfl
theorem entry_map_new : entryFor table "map.__new__" = some Builtin.«map.__new__» := entryFor_of_tree (by kernel_rfl)
theorem sub_map : isSubtype (.type "map") (.type "map") = pure true := by rw [isSubtype_type]; kernel_rfl

abbrev mapHeap (h : Heap) (l : Addr) (f : Value) : Heap := ((h.push { cls := .type "tuple_iterator", data := .fields #[.ref l, .int 0 0] }).push { cls := .type "tuple", data := .seq #[.ref h.objs.size] }).push { cls := .type "map", data := .fields #[.ref (h.objs.size + 1), f] }

set_option maxHeartbeats 1000000 in
theorem new_map_T (f : Value) (l : Addr) (items : Array Value) (n : Nat) (dct : Option Addr) (sl : Array (Option Value)) :
    Meets (Builtin.«map.__new__» ⟨[.type "map", f, .ref l], []⟩) (fun _ R s => s.heap.get? l = some { cls := .type "tuple", dict := dct, data := .seq items n, slots := sl } ∧
      R (.ok (.ret (.ref (s.heap.objs.size + 2)))) { s with heap := mapHeap s.heap l f }) :=
  .of_wp fun prog w A R s h => by
    obtain ⟨hp, g, d, tk, os⟩ := s; obtain ⟨hl, h⟩ := h
    have hsub := sub_map
    have hL : Heap.IsTuple (Shared.heap ⟨hp, g, d, tk, os⟩) l items := ⟨_, hl, rfl, n, rfl⟩
    wp_walk using wpAny_loadPart' hl, wpAny_pyIter_tuple hL
    refine ⟨_, rfl, ?_⟩
    have e1 : (hp.push { cls := .type "tuple_iterator", data := .fields #[.ref l, .int 0 0] }).objs.size = hp.objs.size + 1 := Heap.size_push ..
    have e2 : ((hp.push { cls := .type "tuple_iterator", data := .fields #[.ref l, .int 0 0] }).push { cls := .type "tuple", data := .seq #[.ref hp.objs.size] }).objs.size = hp.objs.size + 2 := by rw [Heap.size_push, e1]
    show R (.ok (.ret (.ref ((hp.push { cls := .type "tuple_iterator", data := .fields #[.ref l, .int 0 0] }).push { cls := .type "tuple", data := .seq #[.ref hp.objs.size] }).objs.size)))
      ⟨((hp.push { cls := .type "tuple_iterator", data := .fields #[.ref l, .int 0 0] }).push { cls := .type "tuple", data := .seq #[.ref hp.objs.size] }).push { cls := .type "map", data := .fields #[.ref (hp.push { cls := .type "tuple_iterator", data := .fields #[.ref l, .int 0 0] }).objs.size, f] }, g, d, tk, os⟩
    rw [e2, e1]
    exact h

theorem args_oi_3 (a b c : Value) : argsOk "object.__init__" ⟨[a, b, c], []⟩ := PySem.F.args_object_init_3 a b c
section
variable {prog : Program} {w : World} {A : Around} {E : Value → Shared → Prop} {s : Shared}

abbrev IsMap (h : Heap) (M TT : Addr) (f : Value) : Prop := h.get? M = some { cls := .type "map", dict := none, data := .fields #[.ref TT, f], slots := #[] }

theorem call_map_T {l : Addr} {items : Array Value} {f : Value} {Q : Value → Shared → Prop} (hl : s.heap.IsTuple l items)
    (h : Q (.ref (s.heap.objs.size + 2)) { s with heap := mapHeap s.heap l f }) : wpAny (model prog w) A (call (.type "map") [f, .ref l]) Q E s := by
  obtain ⟨⟨cls, dd, data, sl⟩, ho, hc, n, hd⟩ := hl
  simp only at hc hd
  subst hc hd
  refine callType_new called_map (by decide) (typeCall_map_2 _ _) (newCall_map_2 _ _) (fun obj => args_oi_3 obj _ _) entry_map_new (new_map_T f l items n dd sl) ⟨ho, ?_⟩
  have e1 : (s.heap.push { cls := .type "tuple_iterator", data := .fields #[.ref l, .int 0 0] }).objs.size = s.heap.objs.size + 1 := Heap.size_push ..
  have e2 : ((s.heap.push { cls := .type "tuple_iterator", data := .fields #[.ref l, .int 0 0] }).push { cls := .type "tuple", data := .seq #[.ref s.heap.objs.size] }).objs.size = s.heap.objs.size + 2 := by rw [Heap.size_push, e1]
  have hg : (mapHeap s.heap l f).get? (s.heap.objs.size + 2) = some { cls := .type "map", data := .fields #[.ref (s.heap.objs.size + 1), f] } := by
    rw [← e2]
    exact Heap.get?_push_size _ rfl
  exact ⟨⟨_, hg, rfl⟩, h⟩

end
end Mine

namespace Mine
open PySem PySem.W PySem.Calls PyProof.Rows

section
variable {prog : Program} {w : World} {A : Around} {E : Value → Shared → Prop} {s : Shared}
/-- map(len, row of rows), one after the other -/
theorem map_len_item {M TT it l a : Addr} {i : Nat} {items its : Array Value} {Q : Option Value → Shared → Prop} (hM : IsMap s.heap M TT (.builtin "len")) (hTT : s.heap.get? TT = some { cls := .type "tuple", data := .seq #[.ref it] })
    (hit : s.heap.IsTupleIter it l i) (hl : s.heap.IsTuple l items) (hx : items[i]? = some (.ref a)) (hlen : ∀ h', Heap.SameBut it s.heap h' → (h'.IsTuple a its ∨ h'.IsList a its)) (hz : its.size < 2 ^ 20)
    (hQ : ∀ h' tk t, h'.IsTupleIter it l (i + 1) → Heap.SameBut it s.heap h' → Q (some (.int its.size t)) { s with heap := h', toks := tk }) :
    wpAny (model prog w) A (pyNext (.ref M)) Q E s := by
  have hT : s.TypeIs (.ref M) "map" := ⟨_, hM, rfl⟩
  unfold pyNext
  refine wpAny_bind (wpAny_attempt (wpAny_callSpecial?_slot (name := Str.ofString "__next__") hT slot_map_next
    (wpAny_call_entry slot_map_next hT entry_map_next ?_ (args_map_next_1 _))))
  show wpAny _ _ (field (.ref M) 0 >>= _) _ _ s
  refine wpAny_bind (wpAny_field hM rfl (x := .ref TT) rfl ?_)
  refine wpAny_bind (wpAny_seqItems hTT rfl ?_)
  dsimp only
  refine wpAny_bind ?_
  show wpAny _ _ (forIn (#[Value.ref it] : Array Value) _ _) _ _ s
  rw [← Array.forIn_toList]
  simp only [List.forIn_cons, List.forIn_nil]
  refine wpAny_bind (wpAny_bind (wpAny_holding (nextOf_tuple_item hit hl hx fun h1 hit1 hs1 => wpAny_pure ?_)))
  replace hs1 : Heap.SameBut it s.heap h1 := hs1
  refine wpAny_pure ?_
  have hne : M ≠ it := by
    rintro rfl
    obtain ⟨o, ho, hc, _⟩ := hit
    rw [hM] at ho; cases ho; simp at hc
  have hM1 : IsMap h1 M TT (.builtin "len") := (hs1.2 M hne).trans hM
  refine wpAny_bind (wpAny_field hM1 rfl (x := .builtin "len") rfl ?_)
  refine wpAny_bind (wpAny_holding ?_)
  have fin : ∀ t tk, wpAny (model prog w) A.in1 (do letGo (#[].push (.ref a)).toList [Value.int its.size t]; ret (Value.int its.size t)) (fun fin s' => ∃ v, fin = Fin.done (.ret v) ∧ wpAny (model prog w) A (pure (some v)) Q E s') (fun e s' => False) { s with heap := h1, toks := tk } := fun t tk =>
    wpAny_bind (wpAny_letGo (wpAny_pure ⟨_, rfl, wpAny_pure (hQ h1 tk t hit1 hs1)⟩))
  rcases hlen h1 hs1 with ha | ha
  · refine len_tuple (s := { s with heap := h1 }) ha (by omega) ?_
    exact fin _ _
  · refine call_len_list (s := { s with heap := h1 }) ha (by omega) ?_
    exact fin _ _

theorem map_end {M TT it l : Addr} {i : Nat} {f : Value} {items : Array Value} {Q : Option Value → Shared → Prop} (hh : A.handled = none) (hM : IsMap s.heap M TT f) (hTT : s.heap.get? TT = some { cls := .type "tuple", data := .seq #[.ref it] })
    (hit : s.heap.IsTupleIter it l i) (hl : s.heap.IsTuple l items) (hx : items[i]? = none)
    (hQ : ∀ h', Heap.ExtBut it s.heap h' → Q none { s with heap := h' }) :
    wpAny (model prog w) A (pyNext (.ref M)) Q E s := by
  have hT : s.TypeIs (.ref M) "map" := ⟨_, hM, rfl⟩
  unfold pyNext
  refine wpAny_bind (wpAny_attempt (wpAny_callSpecial?_slot (name := Str.ofString "__next__") hT slot_map_next
    (wpAny_call_entry slot_map_next hT entry_map_next ?_ (args_map_next_1 _))))
  show wpAny _ _ (field (.ref M) 0 >>= _) _ _ s
  refine wpAny_bind (wpAny_field hM rfl (x := .ref TT) rfl ?_)
  refine wpAny_bind (wpAny_seqItems hTT rfl ?_)
  dsimp only
  refine wpAny_bind ?_
  show wpAny _ _ (forIn (#[Value.ref it] : Array Value) _ _) _ _ s
  rw [← Array.forIn_toList]
  simp only [List.forIn_cons, List.forIn_nil]
  refine wpAny_bind (wpAny_bind (wpAny_holding (nextOf_tuple_end hh hit hl hx fun h' e he' hx' => ?_)))
  obtain ⟨o, ho, hc⟩ := hx'
  refine wpAny_bind (wpAny_isInstance (T := "StopIteration") (b := true) ⟨o, ho, hc⟩ isSubtype_stop ?_)
  exact wpAny_pure (hQ _ he')

theorem walks_map_len (hh : A.handled = none) {M TT it l : Addr} (items : Array Value) (its : Nat → Array Value) (as : List Addr) (hz : ∀ i, (its i).size < 2 ^ 20)
    (has : ∀ (i : Nat) v, items[i]? = some v → ∃ a, v = .ref a ∧ a ∈ as) (hn : M ≠ it ∧ TT ≠ it ∧ l ≠ it) (hai : it ∉ as) :
    Walks prog w A M (M :: TT :: it :: l :: as) [it] items.size (fun i v => ∃ t, v = .int ((its i).size : Nat) t)
      (fun i h => IsMap h M TT (.builtin "len") ∧ h.get? TT = some { cls := .type "tuple", data := .seq #[.ref it] } ∧ h.IsTupleIter it l i ∧ h.IsTuple l items ∧ ∀ (k : Nat) a, items[k]? = some (.ref a) → h.IsTuple a (its k) ∨ h.IsList a (its k)) where
  sub := fun b hb => by rw [List.mem_singleton.mp hb]; simp
  frame := fun i h h' ⟨h1, h2, ⟨o, ho, r⟩, ⟨o2, ho2, r2⟩, h5⟩ hk => ⟨hk M (by simp) _ h1, hk TT (by simp) _ h2, ⟨o, hk it (by simp) _ ho, r⟩, ⟨o2, hk l (by simp) _ ho2, r2⟩, fun k a e => by
    obtain ⟨a', e', hm⟩ := has k _ e
    cases e'
    have ha : a ∈ M :: TT :: it :: l :: as := by simp [hm]
    rcases h5 k a e with ⟨o, ho, r⟩ | ⟨o, ho, r⟩
    · exact .inl ⟨o, hk a ha _ ho, r⟩
    · exact .inr ⟨o, hk a ha _ ho, r⟩⟩
  item := fun i s Q E hi ⟨h1, h2, h3, h4, h5⟩ hQ => by
    have hx : items[i]? = some items[i] := Array.getElem?_eq_getElem hi
    obtain ⟨a, e, hm⟩ := has i _ hx
    rw [e] at hx
    have hai' : a ≠ it := fun q => hai (q ▸ hm)
    refine map_len_item (its := its i) h1 h2 h3 h4 hx (fun h' hs => ?_) (hz i) fun h' tk t hit' hs => ?_
    · rcases h5 i a hx with ⟨o, ho, r⟩ | ⟨o, ho, r⟩
      · exact .inl ⟨o, (hs.2 a hai').trans ho, r⟩
      · exact .inr ⟨o, (hs.2 a hai').trans ho, r⟩
    · refine hQ _ h' tk ⟨t, rfl⟩ ⟨(hs.2 M hn.1).trans h1, (hs.2 TT hn.2.1).trans h2, hit', h4.extBut hs.extBut hn.2.2, fun k c e => ?_⟩ fun b o hb e => hs.extBut b o (fun q => hb (by simp [q])) e
      obtain ⟨c', e', hm'⟩ := has k _ e
      cases e'
      have hci : c ≠ it := fun q => hai (q ▸ hm')
      rcases h5 k c e with ⟨o, ho, r⟩ | ⟨o, ho, r⟩
      · exact .inl ⟨o, (hs.2 c hci).trans ho, r⟩
      · exact .inr ⟨o, (hs.2 c hci).trans ho, r⟩
  done := fun s Q E ⟨h1, h2, h3, h4, _⟩ hQ => map_end hh h1 h2 h3 h4 (by simp) fun h' he => hQ h' s.toks fun b o hb e => he b o (fun q => hb (by simp [q])) e
  self := fun i s Q E ⟨h1, _⟩ hQ => by
    have hT : s.TypeIs (.ref M) "map" := ⟨_, h1, rfl⟩
    refine wpAny_pyIter_slot hT slot_map_iter (wpAny_call_entry slot_map_iter hT entry_map_iter ?_ (args_map_iter_1 _))
    show wpAny _ _ (ret (.ref M)) _ _ s
    exact wpAny_pure ⟨_, rfl, "map", _, hT, slot_map_next.lookup, hQ⟩
end

section
variable {X : Cx} {A : Around} {g : Heap} {env : Env} {ρ : Rho} {σ : Sig} {E : Value → Shared → Prop}

/-- max(map(len, rows)) of two rows -/
theorem Ev.maxLen2 {n : Nat} (hA : Rm n A) {mx mp le y : Str} {p1 p2 p3 p4 pos pos2 : Pos} {d1 d2 : D} {x1 x2 : List D} {Q : Res → Prop} (h1 : X.mg mx = none ∧ X.mb mx = some (.builtin "max")) (h2 : X.mg mp = none ∧ X.mb mp = some (.type "map")) (h3 : X.mg le = none ∧ X.mb le = some (.builtin "len"))
    (hl : ρ.lookup y = some (.tup [d1, d2])) (hd1 : SeqD g d1 x1) (hd2 : SeqD g d2 x2) (hz1 : x1.length < 2 ^ 20) (hz2 : x2.length < 2 ^ 20) (q : Q (.d (.int (max x1.length x2.length : Nat)))) (hv : varOk env y = true := by rfl)
    (hk1 : env.kindOf mx = some .globalImplicit := by rfl) (hk2 : env.kindOf mp = some .globalImplicit := by rfl) (hk3 : env.kindOf le = some .globalImplicit := by rfl)
    (hd1' : (mx == ("__debug__" : Str)) = false := by decide) (hd2' : (mp == ("__debug__" : Str)) = false := by decide) (hd3' : (le == ("__debug__" : Str)) = false := by decide) :
    Ev X A g env ρ σ (.Call (.Name mx p1) [.Call (.Name mp p2) [.Name le p3, .Name y p4] [] pos2] [] pos) Q := fun s S => by
  have H0 : Ev X A g env ρ σ (.Name mx p1) (fun r => r = .d (.val (.builtin "max"))) := Ev.builtin _ h1.1 h1.2 rfl hk1 hd1'
  refine Call_ (Mine.use (H0 s S) S fun v r h1 tk1 S1 x1' y1 e1 => ?_)
  subst e1
  simp only [VR, V] at y1
  subst y1
  refine PyProof.Rows.callWith_builtin1 (args_cons ?_) rfl rfl
  have HE : Es X A g env ρ σ [.Name le p3, .Name y p4] (fun rs => rs = [.d (.val (.builtin "len")), .d (.tup [d1, d2])]) := Es.cons (Ev.builtin _ h3.1 h3.2 (Es.cons (Ev.name _ hl hv (Es.nil rfl)) rfl) hk3 hd3') rfl
  refine callT_raw (s := { s with heap := h1, toks := tk1 }) h2.1 h2.2 HE S1 (fun vs rs h2 tk2 S2 x2' y2 hr => ?_) rfl rfl hk2 hd2'
  subst hr
  obtain ⟨v, ws, rfl, hv1, v2, ws2, rfl, hv2, rfl⟩ := y2
  simp only [VR, V] at hv1 hv2
  subst hv1
  obtain ⟨a, items, rfl, ht, hvs⟩ := hv2
  have ht' : Heap.IsTuple (Shared.heap { s with heap := h2, toks := tk2 }) a items := ht
  refine call_map_T (s := { s with heap := h2, toks := tk2 }) ht' ?_
  refine args_nil ?_
  dsimp only
  have hvs' : ∃ v w, items.toList = [v, w] ∧ V h2 d1 v ∧ V h2 d2 w := by
    obtain ⟨v, ws, e, h1, h2⟩ := (by simpa only [Vs] using hvs : ∃ v ws, items.toList = v :: ws ∧ V h2 d1 v ∧ ∃ v ws', ws = v :: ws' ∧ V h2 d2 v ∧ ws' = [])
    obtain ⟨w, ws', e2, h3, e4⟩ := h2
    subst e4 e2
    exact ⟨v, w, e, h1, h3⟩
  obtain ⟨v, w, e, hV1, hV2⟩ := hvs'
  obtain ⟨a1, i1, rfl, hs1, _, _, _, ha1⟩ := seq_cases S2 hd1 hV1
  obtain ⟨a2, i2, rfl, hs2, _, _, _, ha2⟩ := seq_cases S2 hd2 hV2
  have hi : items = #[.ref a1, .ref a2] := by apply Array.ext'; rw [e]
  subst hi
  have hz1' : i1.size = x1.length := by rw [hs1.length]; simp
  have hz2' : i2.size = x2.length := by rw [hs2.length]; simp
  have xm : Ext h2 (mapHeap h2 a (.builtin "len")) := (Ext.push _ _).trans ((Ext.push _ _).trans (Ext.push _ _))
  have z1 : (h2.push { cls := .type "tuple_iterator", data := .fields #[.ref a, .int 0 0] }).objs.size = h2.objs.size + 1 := Heap.size_push ..
  have z2 : ((h2.push { cls := .type "tuple_iterator", data := .fields #[.ref a, .int 0 0] }).push { cls := .type "tuple", data := .seq #[.ref h2.objs.size] }).objs.size = h2.objs.size + 2 := by rw [Heap.size_push, z1]
  have lt_a : a < h2.objs.size := by obtain ⟨o, ho, _⟩ := ht; exact Heap.lt_size ho
  have lt1 : a1 < h2.objs.size := by rcases ha1 with ⟨o, ho, _⟩ | ⟨o, ho, _⟩ <;> exact Heap.lt_size ho
  have lt2 : a2 < h2.objs.size := by rcases ha2 with ⟨o, ho, _⟩ | ⟨o, ho, _⟩ <;> exact Heap.lt_size ho
  have hMap : IsMap (mapHeap h2 a (.builtin "len")) (h2.objs.size + 2) (h2.objs.size + 1) (.builtin "len") := by
    rw [← z2]; exact Heap.get?_push_size _ rfl
  have hTT : (mapHeap h2 a (.builtin "len")).get? (h2.objs.size + 1) = some { cls := .type "tuple", data := .seq #[.ref h2.objs.size] } := by
    refine Heap.get?_push_of_some _ ?_
    rw [← z1]; exact Heap.get?_push_size _ rfl
  have hIt : (mapHeap h2 a (.builtin "len")).IsTupleIter h2.objs.size a 0 := ⟨_, Heap.get?_push_of_some _ (Heap.get?_push_of_some _ (Heap.get?_push_size _ rfl)), rfl, rfl⟩
  have kp : ∀ {b its}, (IsTup h2 b its ∨ h2.IsList b its) → (mapHeap h2 a (.builtin "len")).IsTuple b its ∨ (mapHeap h2 a (.builtin "len")).IsList b its := fun h => by
    rcases h with ⟨o, ho, r⟩ | ⟨o, ho, r⟩
    · exact .inl ⟨o, xm _ _ ho, r⟩
    · exact .inr ⟨o, xm _ _ ho, r⟩
  let its : Nat → Array Value := fun k => if k = 0 then i1 else i2
  have W := walks_map_len (prog := X.prog) (w := X.w) (A := A.in1) (by simpa using hA.handled) (M := h2.objs.size + 2) (TT := h2.objs.size + 1) (it := h2.objs.size) (l := a) #[.ref a1, .ref a2] its [a1, a2]
    (fun i => by show (if i = 0 then i1 else i2).size < _; split <;> omega)
    (fun i v hv => by
      match i, hv with
      | 0, hv => cases hv; exact ⟨a1, rfl, by simp⟩
      | 1, hv => cases hv; exact ⟨a2, rfl, by simp⟩
      | n + 2, hv => simp at hv)
    ⟨Nat.ne_of_gt (by omega), Nat.ne_of_gt (by omega), Nat.ne_of_lt lt_a⟩ (by
      intro hm
      rcases List.mem_cons.mp hm with q | hm
      · exact absurd q (Nat.ne_of_gt lt1)
      · exact absurd (List.mem_singleton.mp hm) (Nat.ne_of_gt lt2))
  have hst : ∀ (k : Nat) c, (#[Value.ref a1, .ref a2] : Array Value)[k]? = some (.ref c) → (mapHeap h2 a (.builtin "len")).IsTuple c (its k) ∨ (mapHeap h2 a (.builtin "len")).IsList c (its k) := fun k c hc => by
    match k, hc with
    | 0, hc => cases hc; exact kp ha1
    | 1, hc => cases hc; exact kp ha2
    | n + 2, hc => simp at hc
  have hst0 : (IsMap (mapHeap h2 a (.builtin "len")) (h2.objs.size + 2) (h2.objs.size + 1) (.builtin "len") ∧ (mapHeap h2 a (.builtin "len")).get? (h2.objs.size + 1) = some { cls := .type "tuple", data := .seq #[.ref h2.objs.size] } ∧ (mapHeap h2 a (.builtin "len")).IsTupleIter h2.objs.size a 0 ∧ (mapHeap h2 a (.builtin "len")).IsTuple a #[.ref a1, .ref a2] ∧ ∀ (k : Nat) c, (#[Value.ref a1, .ref a2] : Array Value)[k]? = some (.ref c) → (mapHeap h2 a (.builtin "len")).IsTuple c (its k) ∨ (mapHeap h2 a (.builtin "len")).IsList c (its k)) :=
    ⟨hMap, hTT, hIt, let ⟨o, ho, r⟩ := ht; ⟨o, xm _ _ ho, r⟩, hst⟩
  refine call_max_walkS (W.self 0 _ _ _ hst0 ⟨_, _, _, _, _, _, _, fun i j => decide (((its i).size : Int) > (its j).size), rfl, W.toS, hst0, ?_, by simp, CmpOf.ints_gt (fun i => ((its i).size : Int)) (fun i v h => h), ?_⟩)
  · intro b hb
    have hsz : (mapHeap h2 a (.builtin "len")).objs.size = h2.objs.size + 3 := by rw [Heap.size_push, z2]
    show b < (mapHeap h2 a (.builtin "len")).objs.size
    rw [hsz]
    simp only [List.mem_cons, List.not_mem_nil, or_false] at hb
    rcases hb with rfl | rfl | rfl | rfl | rfl | rfl
    · exact Nat.lt_succ_self _
    · exact Nat.lt_succ_of_lt (Nat.lt_succ_self _)
    · exact Nat.lt_succ_of_lt (Nat.lt_succ_of_lt (Nat.lt_succ_self _))
    · exact Nat.lt_succ_of_lt (Nat.lt_succ_of_lt (Nat.lt_succ_of_lt lt_a))
    · exact Nat.lt_succ_of_lt (Nat.lt_succ_of_lt (Nat.lt_succ_of_lt lt1))
    · exact Nat.lt_succ_of_lt (Nat.lt_succ_of_lt (Nat.lt_succ_of_lt lt2))
  · rintro v s' ⟨t, rfl⟩ hm
    obtain ⟨h', g', d', tk', os'⟩ := s'
    have eg : g' = s.gens := hm.gens
    have ed : d' = s.drawn := hm.drawn
    have eo : os' = s.os := hm.os
    subst eg ed eo
    refine ⟨.d (.int (max x1.length x2.length : Nat)), h', tk', rfl, x1'.trans (x2'.trans fun b o e => hm.heap b o ?_ (xm b o e)), ?_, q⟩
    · intro hmm
      exact absurd (List.mem_singleton.mp hmm) (Nat.ne_of_lt (Heap.lt_size e))
    · simp only [VR, V]
      refine ⟨t, ?_⟩
      have : (its (argBest (fun i j => decide (((its i).size : Int) > (its j).size)) ((#[Value.ref a1, .ref a2] : Array Value).size - 1))).size = max x1.length x2.length := by
        show (its (argBest (fun i j => decide (((its i).size : Int) > (its j).size)) 1)).size = _
        simp only [argBest]
        have h0 : (its 0).size = x1.length := hz1'
        have h1 : (its (0 + 1)).size = x2.length := hz2'
        by_cases hc : ((its (0 + 1)).size : Int) > (its 0).size
        · simp only [hc, decide_true, if_true]
          omega
        · simp only [hc, decide_false, Bool.false_eq_true, if_false]
          omega
      rw [this]
end
end Mine

namespace Mine
open PySem PySem.W PySem.Calls PyProof.Rows

section
variable {prog : Program} {w : World} {A : Around} {E : Value → Shared → Prop} {s : Shared}

theorem truthy_seq {a : Addr} {its : Array Value} {Q : Bool → Shared → Prop} (h : s.heap.IsTuple a its ∨ s.heap.IsList a its) (hz : its.size < 2 ^ 20) (q : ∀ tk, Q (!its.isEmpty) { s with toks := tk }) : wpAny (model prog w) A (truthy (.ref a)) Q E s := by
  rcases h with h | h
  · exact truthy_tuple h (by omega) (q _)
  · exact wpAny_truthy_list h (by omega) (q _)

theorem call_all_two {t a1 a2 : Addr} {i1 i2 : Array Value} {Q : Value → Shared → Prop} (hh : A.handled = none) (ht : s.heap.IsTuple t #[.ref a1, .ref a2]) (h1 : s.heap.IsTuple a1 i1 ∨ s.heap.IsList a1 i1) (h2 : s.heap.IsTuple a2 i2 ∨ s.heap.IsList a2 i2)
    (z1 : i1.size < 2 ^ 20) (z2 : i2.size < 2 ^ 20) (q : ∀ h' tk, Ext s.heap h' → Q (.bool (!i1.isEmpty && !i2.isEmpty)) { s with heap := h', toks := tk }) : wpAny (model prog w) A (call (.builtin "all") [.ref t]) Q E s := by
  refine call_function_tree PySem.F.kind_all PySem.F.plain_all PySem.F.entry_all (PySem.F.args_all1 _) ?_
  unfold Builtin.«all»
  refine wpAny_bind (m := _) (wpAny_pure ?_)
  have hne : ∀ {b : Addr}, (∃ o, s.heap.get? b = some o) → b ≠ s.heap.objs.size := fun ⟨o, e⟩ => pushed_ne e
  have ht' := ht.push (o := { cls := .type "tuple_iterator", data := .fields #[.ref t, .int 0 0] })
  have ex : ∀ {b its}, (s.heap.IsTuple b its ∨ s.heap.IsList b its) → ∃ o, s.heap.get? b = some o := fun h => by rcases h with ⟨o, ho, _⟩ | ⟨o, ho, _⟩ <;> exact ⟨o, ho⟩
  have htn : t ≠ s.heap.objs.size := hne (by obtain ⟨o, ho, _⟩ := ht; exact ⟨o, ho⟩)
  have tog : ∀ {h' : Heap} {b : Addr} {its}, (∀ c o, c ≠ s.heap.objs.size → (s.heap.push { cls := .type "tuple_iterator", data := .fields #[.ref t, .int 0 0] }).get? c = some o → h'.get? c = some o) → (s.heap.IsTuple b its ∨ s.heap.IsList b its) → h'.IsTuple b its ∨ h'.IsList b its := fun hk h => by
    have hn := hne (ex h)
    rcases h with ⟨o, ho, r⟩ | ⟨o, ho, r⟩
    · exact .inl ⟨o, hk _ _ hn (Heap.get?_push_of_some _ ho), r⟩
    · exact .inr ⟨o, hk _ _ hn (Heap.get?_push_of_some _ ho), r⟩
  have xt : ∀ {h' : Heap}, (∀ c o, c ≠ s.heap.objs.size → (s.heap.push { cls := .type "tuple_iterator", data := .fields #[.ref t, .int 0 0] }).get? c = some o → h'.get? c = some o) → Ext s.heap h' := fun hk c o e => hk c o (pushed_ne e) (Heap.get?_push_of_some _ e)
  refine wpAny_bind (wpAny_pyIter_tuple ht ?_)
  refine wpAny_pure ⟨plainId_quiet PySem.F.plain_all_loop _, ?_⟩
  refine codeAny_builtin PySem.F.entry_all_loop ?_
  rw [Around.under_plainId PySem.F.plain_all_loop _]
  show wpAny _ _ (pyNext (.ref s.heap.objs.size) >>= _) _ _ _
  have hit : (s.heap.push { cls := .type "tuple_iterator", data := .fields #[.ref t, .int 0 0] }).IsTupleIter s.heap.objs.size t 0 := ⟨_, Heap.get?_push_size _ rfl, rfl, rfl⟩
  refine wpAny_bind (wpAny_pyNext_tuple_item (s := { s with heap := s.heap.push { cls := .type "tuple_iterator", data := .fields #[.ref t, .int 0 0] } }) hit ht' rfl fun h3 hit3 hs3 => ?_)
  replace hs3 : Heap.SameBut s.heap.objs.size (s.heap.push { cls := .type "tuple_iterator", data := .fields #[.ref t, .int 0 0] }) h3 := hs3
  have k3 := hs3.extBut
  refine wpAny_bind (wpAny_holding (truthy_seq (s := { s with heap := h3 }) (tog k3 h1) z1 fun tk3 => ?_))
  refine wpAny_bind (wpAny_letGo ?_)
  cases he1 : i1.isEmpty with
  | true =>
    simp only [Bool.not_true, Bool.false_eq_true, if_false]
    refine wpAny_bind (wpAny_rule (wpAny_pure ?_))
    have := q h3 tk3 (xt k3)
    rw [he1] at this
    exact this
  | false =>
    simp only [Bool.not_false, if_true]
    refine wpAny_pure ⟨plainId_quiet PySem.F.plain_all_loop _, ?_⟩
    refine codeAny_builtin PySem.F.entry_all_loop ?_
    rw [Around.under_plainId PySem.F.plain_all_loop _]
    show wpAny _ _ (pyNext (.ref s.heap.objs.size) >>= _) _ _ _
    have ht3 : h3.IsTuple t #[.ref a1, .ref a2] := ht'.extBut k3 htn
    refine wpAny_bind (wpAny_pyNext_tuple_item (s := { s with heap := h3, toks := tk3 }) hit3 ht3 rfl fun h4 hit4 hs4 => ?_)
    replace hs4 : Heap.SameBut s.heap.objs.size h3 h4 := hs4
    have k4 : ∀ c o, c ≠ s.heap.objs.size → (s.heap.push { cls := .type "tuple_iterator", data := .fields #[.ref t, .int 0 0] }).get? c = some o → h4.get? c = some o := fun c o hc e => hs4.extBut c o hc (k3 c o hc e)
    refine wpAny_bind (wpAny_holding (truthy_seq (s := { s with heap := h4, toks := tk3 }) (tog k4 h2) z2 fun tk4 => ?_))
    refine wpAny_bind (wpAny_letGo ?_)
    cases he2 : i2.isEmpty with
    | true =>
      simp only [Bool.not_true, Bool.false_eq_true, if_false]
      refine wpAny_bind (wpAny_rule (wpAny_pure ?_))
      have := q h4 tk4 (xt k4)
      rw [he1, he2] at this
      exact this
    | false =>
      simp only [Bool.not_false, if_true]
      refine wpAny_pure ⟨plainId_quiet PySem.F.plain_all_loop _, ?_⟩
      refine codeAny_builtin PySem.F.entry_all_loop ?_
      rw [Around.under_plainId PySem.F.plain_all_loop _]
      show wpAny _ _ (pyNext (.ref s.heap.objs.size) >>= _) _ _ _
      have ht4 : h4.IsTuple t #[.ref a1, .ref a2] := ht3.extBut hs4.extBut htn
      refine wpAny_bind (wpAny_pyNext_tuple_end (s := { s with heap := h4, toks := tk4 }) (by simpa using hh) hit4 ht4 rfl fun h5 hx5 => ?_)
      refine wpAny_bind (wpAny_rule (wpAny_pure ?_))
      have := q h5 tk4 (xt fun c o hc e => hx5 c o hc (k4 c o hc e))
      rw [he1, he2] at this
      exact this
end

section
variable {X : Cx} {A : Around} {g : Heap} {env : Env} {ρ : Rho} {σ : Sig} {E : Value → Shared → Prop}

theorem two_of {h : Heap} {d1 d2 : D} {items : Array Value} (hvs : Vs h [d1, d2] items.toList) : ∃ v w, items = #[v, w] ∧ V h d1 v ∧ V h d2 w := by
  obtain ⟨v, ws, e, h1, h2⟩ := (by simpa only [Vs] using hvs : ∃ v ws, items.toList = v :: ws ∧ V h d1 v ∧ ∃ v ws', ws = v :: ws' ∧ V h d2 v ∧ ws' = [])
  obtain ⟨w, ws', e2, h3, e4⟩ := h2
  subst e4 e2
  exact ⟨v, w, by apply Array.ext'; rw [e], h1, h3⟩
theorem CB.all2 {n : Nat} (hA : Rm n A) {d1 d2 : D} {x1 x2 : List D} {Q : Res → Prop} (hd1 : SeqD g d1 x1) (hd2 : SeqD g d2 x2) (hz1 : x1.length < 2 ^ 20) (hz2 : x2.length < 2 ^ 20) (q : Q (.d (.val (.bool (!x1.isEmpty && !x2.isEmpty))))) :
    CB X A g env ρ σ (.builtin "all") [.d (.tup [d1, d2])] Q := fun s vs S h => by
  obtain ⟨v, ws, rfl, hv, rfl⟩ := h
  simp only [AR, V] at hv
  obtain ⟨t, items, rfl, ht, hvs⟩ := hv
  obtain ⟨v, w, rfl, hV1, hV2⟩ := two_of hvs
  obtain ⟨a1, i1, rfl, hs1, _, _, _, ha1⟩ := seq_cases S hd1 hV1
  obtain ⟨a2, i2, rfl, hs2, _, _, _, ha2⟩ := seq_cases S hd2 hV2
  have e1 : i1.size = x1.length := by rw [hs1.length]; simp
  have e2 : i2.size = x2.length := by rw [hs2.length]; simp
  have e1' : i1.isEmpty = x1.isEmpty := by rw [Array.isEmpty, e1]; cases x1 <;> simp
  have e2' : i2.isEmpty = x2.isEmpty := by rw [Array.isEmpty, e2]; cases x2 <;> simp
  refine call_all_two hA.handled ht ha1 ha2 (by omega) (by omega) fun h' tk x => .mk (.d (.val (.bool (!x1.isEmpty && !x2.isEmpty)))) x ?_ q
  simp only [VR, V]
  rw [e1', e2']
/-- list(a tuple) -/
theorem CB.listT {ds : List D} {Q : Res → Prop} (hz : ds.length < 2 ^ 20) (q : Q (.new ds)) : CB X A g env ρ σ (.type "list") [.d (.tup ds)] Q := fun s vs S h => by
  obtain ⟨v, ws, rfl, hv, rfl⟩ := h
  simp only [AR, V] at hv
  obtain ⟨t, items, rfl, ht, hvs⟩ := hv
  obtain ⟨o, ho, hc, n, hd⟩ := ht
  have hz' : items.size = ds.length := by rw [hvs.length]; simp
  refine call_list_seq t (.inr rfl) ho hc hd (fun h' c' hk hg => .mk (.new ds) hk ⟨_, rfl, Heap.get?_none_of_le (Nat.le_refl _), items, ⟨c', hg⟩, hvs.mono (Ext.tg hk)⟩ q) (by have : sizeLine = 2 ^ 24 := rfl; omega)
/-- tuple(a list) -/
theorem CB.tupleL {ds : List D} {Q : Res → Prop} (hz : ds.length < 2 ^ 20) (q : Q (.d (.tup ds))) : CB X A g env ρ σ (.type "tuple") [.lst ds] Q := fun s vs S h => by
  obtain ⟨v, ws, rfl, ⟨a, rfl, items, hi, hvs⟩, rfl⟩ := h
  have hz' : items.size = ds.length := by rw [hvs.length]; simp
  refine call_tuple_list hi (fun h' hk => .mk (.d (.tup ds)) (Ext.trans hk (Ext.push _ _)) ?_ q) (by have : sizeLine = 2 ^ 24 := rfl; omega)
  simp only [VR, V]
  exact ⟨_, items, rfl, IsTup.new _ _, hvs.mono (Ext.tg (Ext.trans hk (Ext.push _ _)))⟩
end
end Mine

namespace Mine
open PySem PySem.W PySem.Calls PyProof.Rows

/-- kinds of items: how a dict keyed by them is held -/
structure IKind (X : Cx) (α : Type) [DecidableEq α] where
  toD : α → D
  cell : Nat → (α → Option D) → Cell
  cmp : ∀ x y : α, ItemD (toD x) (toD y) (decide (x = y))
  empty : ∀ {A : Around} {g : Heap} {env : Env} {ρ : Rho} {σ : Sig} {x : Str} {px dp pos : Pos} {Q : AF → Rho → Sig → Prop}, (∀ a, σ a = none → a ≠ env.locals → Q .nxt ((x, .val (.ref a)) :: ρ) (σ.put a (cell 0 (fun _ => none)))) → stOk env x = true →
    swapsWith (.Dict [] [] dp) (some (.Name x px)) pos.line env = pure false → X1 X A g env ρ σ (.Assign [.Name x px] (.Dict [] [] dp) pos) Q
  get : ∀ {n : Nat} {A : Around} {g : Heap} {env : Env} {ρ : Rho} {σ : Sig} {o e f : Expr} {apos pos : Pos} {Q : Res → Prop}, Rm n A →
    Ev X A g env ρ σ o (fun r => ∃ a m F, r = .d (.val (.ref a)) ∧ σ a = some (cell m F) ∧ Ev X A g env ρ σ e (fun r2 => ∃ k, r2 = .d (toD k) ∧ Ev X A g env ρ σ f (fun r3 => ∃ d, r3 = .d d ∧ Q (.d ((F k).getD d))))) →
    attributeBase o "get" env (eval o env) = eval o env → (apos.endLine == pos.line) = true → backTo pos (starEach [e, f] env) = [(false, eval e env), (false, eval f env)] →
    Ev X A g env ρ σ (.Call (.Attribute o "get" apos) [e, f] [] pos) Q
  set : ∀ {n : Nat} {A : Around} {g : Heap} {env : Env} {ρ : Rho} {σ : Sig} {o i value : Expr} {pp pos : Pos} {Q : AF → Rho → Sig → Prop}, Rm n A →
    Ev X A g env ρ σ value (fun r => ∃ d, r = .d d ∧ Ev X A g env ρ σ o (fun r2 => ∃ a m f, r2 = .d (.val (.ref a)) ∧ σ a = some (cell m f) ∧ m < 2 ^ 20 ∧ Ev X A g env ρ σ i (fun r3 => ∃ k, r3 = .d (toD k) ∧ Q .nxt ρ (σ.put a (cell (m + 1) (fun k' => if k' = k then some d else f k')))))) →
    swapsWith value (some (.Subscript o i pp)) pos.line env = pure false → X1 X A g env ρ σ (.Assign [.Subscript o i pp] value pos) Q

def intIK (X : Cx) : IKind X Int where
  toD := .int
  cell := .dI
  cmp := fun x y => .int x y
  empty := fun H h1 h2 => X1.emptyI H h1 h2
  get := fun hA H h1 h2 h3 => Ev.getI H h1 h2 h3
  set := fun hA H h1 => X1.setI H h1
def tupIK (X : Cx) : IKind X (List Int) where
  toD := fun x => .tup (x.map .int)
  cell := .dT
  cmp := fun x y => .tup x y
  empty := fun H h1 h2 => X1.emptyT H h1 h2
  get := fun hA H h1 h2 h3 => Ev.getT hA H h1 h2 h3
  set := fun hA H h1 => X1.setT hA H h1

/-- the last place, counted from 1, among the first k at which c stands; 0 for none -/
def lastOf {α : Type} [DecidableEq α] (xs : List α) : Nat → α → Nat
  | 0, _ => 0
  | k + 1, c => if xs[k]? = some c then k + 1 else lastOf xs k c
theorem lastOf_le {α : Type} [DecidableEq α] (xs : List α) (c : α) : ∀ k, lastOf xs k c ≤ k
  | 0 => Nat.le_refl _
  | k + 1 => by unfold lastOf; split; exact Nat.le_refl _; exact Nat.le_succ_of_le (lastOf_le xs c k)

/-- the free distance as its table gives it -/
structure URec {α : Type} [DecidableEq α] (xs ys : List α) (G : Int → Int → Int) : Prop where
  corner : G (-1) (-1) = (xs.length : Int) + ys.length
  left : ∀ i : Nat, i ≤ xs.length → G i (-1) = (xs.length : Int) + ys.length
  top : ∀ j : Nat, j ≤ ys.length → G (-1) j = (xs.length : Int) + ys.length
  zi : ∀ i : Nat, i ≤ xs.length → G i 0 = i
  zj : ∀ j : Nat, j ≤ ys.length → G 0 j = j
  step : ∀ (i j : Nat) (x y : α), xs[i]? = some x → ys[j]? = some y → G (i + 1) (j + 1) =
    min (min (min (G i j + if x = y then 0 else 1) (G (i + 1) j + 1)) (G i (j + 1) + 1)) (G ((lastOf xs i y : Nat) - 1) ((lastOf ys j x : Nat) - 1) + ((i + 1 : Int) - (lastOf xs i y : Nat)) - 1 + ((j + 1 : Int) - (lastOf ys j x : Nat)))

section
variable {X : Cx} {A : Around} {g : Heap} {env : Env} {ρ : Rho} {σ : Sig} {E : Value → Shared → Prop}

theorem Ev.lenS {le x : Str} {p px pos : Pos} {d : D} {ds : List D} {Q : Res → Prop} (h3 : X.mg le = none ∧ X.mb le = some (.builtin "len")) (hl : ρ.lookup x = some d) (hd : SeqD g d ds) (hz : ds.length < 2 ^ 20) (q : Q (.d (.int ds.length)))
    (hv : varOk env x = true := by rfl) (hk3 : env.kindOf le = some .globalImplicit := by rfl) (hd3' : (le == ("__debug__" : Str)) = false := by decide) :
    Ev X A g env ρ σ (.Call (.Name le p) [.Name x px] [] pos) Q := by
  rcases hd with rfl | ⟨a, rfl, hL⟩
  · exact Ev.callB h3.1 h3.2 (Es.cons (Ev.name _ hl hv (Es.nil (CB.lenT hz q))) rfl) rfl rfl hk3 hd3'
  · exact Ev.callB h3.1 h3.2 (Es.cons (Ev.nameL a _ hl hv (.inr hL) (Es.nil (CB.lenL hz q))) rfl) rfl rfl hk3 hd3'
theorem X1.setD {x : Str} {px pp tp pos : Pos} {kk : Nat} {elts : List Expr} {value : Expr} {a : Addr} {m : Nat} {f : List Int → Option D} {ks : List Int} {v : Int} {n : Nat} {Q : AF → Rho → Sig → Prop} (hA : Rm n A) (hl : ρ.lookup x = some (.val (.ref a))) (hσ : σ a = some (.dT m f)) (hm : m < 2 ^ 20)
    (hk : evIs env ρ elts = some ks) (hv : evI env ρ value = some v) (q : Q .nxt ρ (σ.put a (.dT (m + 1) (Mine.setT f ks (.int v))))) (hz : ks.length < 2 ^ 20 := by simp) (ho : varOk env x = true := by rfl)
    (hs : swapsWith value (some (.Subscript (.Name x px) (.Tuple elts kk tp) pp)) pos.line env = pure false := by rfl) : X1 X A g env ρ σ (.Assign [.Subscript (.Name x px) (.Tuple elts kk tp) pp] value pos) Q :=
  X1.setT hA (Ev.int hv ⟨_, rfl, Ev.name _ hl ho ⟨a, m, f, rfl, hσ, hm, Ev.ints hk hz ⟨ks, rfl, q⟩⟩⟩) hs
theorem Ev.getD {x : Str} {px tp pos : Pos} {kk : Nat} {elts : List Expr} {a : Addr} {m : Nat} {f : List Int → Option D} {ks : List Int} {d : D} {n : Nat} {Q : Res → Prop} (hA : Rm n A) (hl : ρ.lookup x = some (.val (.ref a))) (hσ : σ a = some (.dT m f))
    (hk : evIs env ρ elts = some ks) (hf : f ks = some d) (q : Q (.d d)) (hz : ks.length < 2 ^ 20 := by simp) (ho : varOk env x = true := by rfl)
    (hs : ∀ a k, subscripted (.Tuple elts kk tp) false (.ref a) (.ref k) = operate [.ref a, .ref k] (getItem (.ref a) (.ref k)) := by intros; with_unfolding_all rfl) : Ev X A g env ρ σ (.Subscript (.Name x px) (.Tuple elts kk tp) pos) Q :=
  Ev.itemD hA (Ev.name _ hl ho ⟨a, m, f, rfl, hσ, Ev.ints hk hz ⟨ks, d, rfl, hf, q⟩⟩) hs
end
end Mine

namespace Mine
open PySem PySem.W PySem.Calls PyProof.Rows Builtin.ObjectAttr

section
variable {prog : Program} {w : World} {A : Around} {E : Value → Shared → Prop} {s : Shared} {K : Frag} {x C : Addr} {R : Result → Shared → Prop}
theorem osa_heap {ox od od' : Obj} {dx : Addr} {name : Str} {tk : Tok} {v : Value} {es : List DictEntry} {n : Nat} (D : s.heap.get? dx = some od) (X : K.In s.heap)
    (I : InstAt s.heap x ox C (some od)) (hd : ox.dict = some dx) (hp : plainOver K C = true) (ht : takerIn K C name = some none) (hh : (clsIn K C).any (·.hasDict) = true)
    (hl : (lookIn name od).isSome = true)
    (e : Obj.putName name (PyData.keyHash w.params name) (.str name s.toks) v od = od') (e' : od'.data = .dict es.toArray n) (hz : es.length ≤ 1000)
    (h : ∀ h', h'.get? dx = some od' → Heap.SameBut dx s.heap h' → R (.ok (.ret .none)) { s with heap := h', toks := s.toks + 1 }) :
    codeAny (model prog w) A (.call (.builtin "object.__setattr__") ⟨[.ref x, .str name tk, v], []⟩) R s := by
  refine osa_open X I hp ht fun b => ?_
  obtain ⟨cd, hc, hd'⟩ := any_some hh
  have D' : (s.heap.update dx (Obj.putName name (PyData.keyHash w.params name) (.str name s.toks) v)).get? dx = some od' := by
    rw [Heap.get?_update_self _ D (by rw [e]; obtain ⟨_, _, dd, _⟩ := od'; cases e'; rfl), e]
  obtain ⟨hx, hcl, hn, -⟩ := I
  obtain ⟨oc, odi, oda, osl⟩ := ox
  dsimp only at hcl hd
  subst hcl hd
  refine wpAny_bind (wpAny_pure (wpAny_bind (wpAny_bind (wpAny_loadPart hx (wpAny_bind ((looks_clsIn X hc).here ?_))))))
  rw [hd']
  refine wpAny_pure (a := some dx) (wpAny_bind (wpAny_pure (wpAny_bind ?_)))
  unfold nsSet
  refine wpAny_bind (wpAny_bind (wpAny_askSetting (wpAny_pure (wpAny_bind (wpAny_mkText (wpAny_bind (wpAny_loadPart D ?_)))))))
  unfold lookIn at hl
  split at hl
  · rename_i es₀ n₀ q
    rw [q]
    dsimp only
    have c : (!es₀.any (·.key.isStr name) && es₀.any (·.refKey)) = false := by
      rw [← Array.any_toList, ← Array.any_toList]
      split at hl
      · rename_i en he
        rw [List.any_eq_true.mpr ⟨en, List.mem_of_find?_eq_some he, List.find?_some he⟩]; rfl
      · split at hl
        · cases hl
        · rename_i z; rw [Bool.not_eq_true] at z; rw [z, Bool.and_false]
    rw [aRefKeyMayBeTheName_at, c]
    refine wpAny_updatePart D ?_
    refine wpAny_bind (wpAny_lookBehind D' (by rw [e']; exact pastItsLine_dict (by rw [List.size_toArray, sizeLine_eq]; omega)) ?_)
    exact wpAny_pure (h _ D' (Heap.SameBut.update ..))
  · cases hl
end

/-- the class, for storing -/
structure DLs (K : Frag) (C : Addr) : Prop where
  hs : findIn K (.ref C) "__setattr__" = some (some (.builtin "object.__setattr__"))
  hp : plainOver K C = true

section
variable {X : Cx} {A : Around} {g : Heap} {env : Env} {ρ : Rho} {σ : Sig} {E : Value → Shared → Prop}

theorem putL_len (nm : Str) (h : Int) (k v : Value) : ∀ es : List DictEntry, (putL nm h k v es).length ≤ es.length + 1
  | [] => Nat.le_refl _
  | e :: r => by
    unfold putL
    split
    · simp
    · simpa using putL_len nm h k v r
/-- plain data -/
def Dv : D → Value → Prop
  | .val u, v => v = u
  | .int i, v => ∃ t, v = .int i t
  | .tup _, _ => False
theorem X1.setAttr {C I dx : Addr} {x name : Str} {px apos pos : Pos} {value : Expr} {es : List DictEntry} {n : Nat} {Q : AF → Rho → Sig → Prop} (c : DLc X.K C) (cs : DLs X.K C) (hI : σ I = some (.obj (instObj C dx))) (hdx : σ dx = some (.obj (dictOf es n)))
    (hl : ρ.lookup x = some (.val (.ref I)))
    (H : Ev X A g env ρ σ value (fun r => ∃ d, r = .d d ∧ (∀ xs, d ≠ .tup xs) ∧ ∀ v tk, Dv d v → Q .nxt ρ (σ.put dx (.obj (dictOf (putL name (PyData.keyHash X.w.params name) (.str name tk) v es) (putN name es n))))))
    (ht : takerIn X.K C name = some none) (hlk : (getL name es).isSome = true) (hz : Nat.ble es.length 900 = true)
    (ho : varOk env x = true := by rfl)
    (hsw : swapsWith value (some (.Attribute (.Name x px) name apos)) pos.line env = pure false := by rfl) :
    X1 X A g env ρ σ (.Assign [.Attribute (.Name x px) name apos] value pos) Q := fun s S => by
  have HN : Ev X A g env ρ σ (.Name x px) (fun r => r = .d (.val (.ref I))) := Ev.name _ hl ho rfl
  refine plainObj_wpAny_Assign_Attribute ?_ hsw
  refine Mine.use (H s S) S fun v r h1 tk1 S1 x1 y1 ⟨d, e1, hd, q⟩ => ?_
  subst e1
  have hv : Dv d v := by
    cases d with
    | val u => simpa only [VR, V, Dv] using y1
    | int i => simpa only [VR, V, Dv] using y1
    | tup xs => exact absurd rfl (hd xs)
  refine Mine.use (HN _ S1) S1 fun u r h2 tk2 S2 x2 y2 e2 => ?_
  subst e2
  simp only [VR, V] at y2
  subst y2
  have gI := (S2.own I _ hI).1.1
  have gD := (S2.own dx _ hdx).1.1
  have hat : InstAt h2 I (instObj C dx) C (some (dictOf es n)) := ⟨gI, rfl, rfl, gD⟩
  refine set_plain (s := { s with heap := h2, toks := tk2 }) S2.gl.k hat cs.hs ?_
  refine osa_heap (s := { s with heap := h2, toks := tk2 + 1 }) gD S2.gl.k hat rfl cs.hp ht c.hdict (by rw [lookIn_dict]; exact hlk) (by rw [putName_dict]) rfl (Nat.le_trans (putL_len _ _ _ _ _) (by have := Nat.le_of_ble_eq_true hz; omega)) fun h' hg hs => ?_
  exact turnX (s := s) (h₁ := h2) (h' := h') (tk := tk2 + 1 + 1) (c' := .obj (dictOf (putL name (PyData.keyHash X.w.params name) (.str name (tk2 + 1)) v es) (putN name es n))) (x1.trans x2) S2 hdx hs (fun tg => ⟨hg, by simp [dictOf], by simp [dictOf]⟩) (q v _ hv)
end

/-- a frame on a base that stands below what it is handed -/
theorem init_enter {X : Cx} {n : Nat} {f : Addr} {o : Obj} {fd : FuncData} {body : List Stmt} {kw : List (Str × Value)} {A : Around} {g : Heap} {s : Shared} {vs : List Value} {σ : Sig} {R : Result → Shared → Prop} (xs : List Str) (ds : List D) (us : List Value)
    (hA : Rm (n + 1) A) (hg : GX X g) (x0 : Ext g s.heap) (hσ : ∀ a c, σ a = some c → c.In X.prog X.w s.heap a ∧ g.get? a = none)
    (hbind : wpAny (model X.prog X.w) A.in1 (bindArgs fd ⟨vs, kw⟩) (fun binds s' => binds = xs.zip us ∧ s' = s) NoE s) (hxl : xs.length = us.length) (hv : Vs s.heap ds us)
    (ho : X.K.lookup f = some o) (hd : o.data = .func fd) (hbody : fd.body = .stmts body) (hcd : codeIn X.K fd.code fd.qualname = true)
    (hkind : (xs.all fun y => fd.scope.names.lookup y == some .local || fd.scope.names.lookup y == some .cell) = true) (hnd : ndB xs = true)
    (hglob : fd.globals = mainGlobals) (hblt : fd.builtins = builtinsNs) (hclo : fd.closure = [])
    (hco : fd.scope.isCoroutine = false) (hgen : fd.scope.isGenerator = false) (hk : fd.scope.kind = .function)
    (H : ∀ (A : Around) (L : Addr), Rm n A → Xs X A g (envF fd L f) (xs.zip ds) σ body (fun f ρ' σ' => f = .nxt ∧ ∀ h' tk, Ext g h' → (∀ a c, σ' a = some c → c.In X.prog X.w h' a) → R (.ok (.ret .none)) { s with heap := h', toks := tk })) :
    codeAny (model X.prog X.w) A (.call (.ref f) ⟨vs, kw⟩) R s := by
  have hkind' : ∀ x ∈ xs, fd.scope.names.lookup x = some .local ∨ fd.scope.names.lookup x = some .cell := fun x hx => by
    have := List.all_eq_true.mp hkind x hx
    simpa using this
  have hg' : GX X s.heap := hg.ext x0
  refine codeAny_call_function (by have := hA.depth; omega) (hg'.k _ _ ho) hd hco hgen hbody (codeRec_of hg'.k hcd) (wpAny_mono hbind (fun binds s' ⟨e1, e2⟩ => ?_) fun _ _ f => f.elim)
  subst e1 e2
  have hmap : (xs.zip us).map (·.1) = xs := by rw [List.map_fst_zip (by omega)]
  rw [hclo]
  refine wpAny_newFunctionEnv_cells hk (fun x hx => ?_) fun env he s₁ x => ?_
  · have hx' : x.1 ∈ xs := by rw [← hmap]; exact List.mem_map.mpr ⟨x, hx, rfl⟩
    rcases hkind' _ hx' with h | h
    · exact .inl h
    · exact .inr ⟨h, cellsFrom_some _ _ _ (.inl h)⟩
  · subst he
    refine ⟨hg'.nolimit.keeps x.toInCall.keep, codeAny_func ?_⟩
    obtain ⟨S, x1, h1, tk1, rfl⟩ := St.entry (X := X) (f := f) hg' hv hxl hglob hblt hk (ndB_nodup hnd) x hkind'
    have S' : SX X g (envF fd s'.heap.objs.size f) (xs.zip ds) σ h1 := { S with
      glob := hg
      keep := x0.trans x1
      out := x0.none S.out
      cok := fun y c h2 => let ⟨p, r⟩ := S.cok y c h2; ⟨x0.none p, r⟩
      own := fun a c h2 => let ⟨p, q⟩ := hσ a c h2; ⟨p.ext x1, q, by
        rintro rfl
        obtain ⟨oo, hoo, _⟩ := p.some
        have := S.out
        rw [hoo] at this; cases this⟩ }
    refine wpAny_mono (H (A.deeper (envF fd s'.heap.objs.size f)) s'.heap.objs.size hA.deeper _ S') ?_ fun _ _ f => f.elim
    rintro fl s₂ ⟨af, ρ', σ', h2, tk', rfl, S2, P', hf, rfl, q⟩
    simp only [FR] at hf
    subst hf
    exact q h2 tk' S2.keep fun a c h3 => (S2.own a c h3).1
end Mine

namespace Mine
open PySem PySem.W PySem.Calls PyProof.Rows

section
variable {X : Cx} {A : Around} {g : Heap} {env : Env} {ρ : Rho} {σ : Sig} {E : Value → Shared → Prop}

theorem eqAt_item {A : Around} {s : Shared} {d1 d2 : D} {b : Bool} {v1 v2 : Value} (hd : ItemD d1 d2 b) (hu : A.units < cLine) (h1 : V s.heap d1 v1) (h2 : V s.heap d2 v2) : SeqAt.EqAt A s v1 v2 b := fun prog w E Q q => by
  cases hd with
  | int i j =>
    simp only [V] at h1 h2
    obtain ⟨t, rfl⟩ := h1
    obtain ⟨u, rfl⟩ := h2
    exact (intKind prog w).eqBool (intKind_is _ _ i t) (intKind_is _ _ j u) q
  | tup x y =>
    obtain ⟨a, rfl, ha⟩ := key_of_v (prog := prog) (w := w) h1
    obtain ⟨c, rfl, hc⟩ := key_of_v (prog := prog) (w := w) h2
    exact wpAny_eqBool_tuple hu ha hc q

theorem all_eq_range {α : Type} [DecidableEq α] (xs ys : List α) (h : xs.length = ys.length) : ((List.range xs.length).all fun j => decide (xs[j]? = ys[j]?)) = decide (xs = ys) := by
  by_cases e : xs = ys
  · subst e; simp
  · rw [decide_eq_false e]
    rw [List.all_eq_false]
    apply Classical.byContradiction
    intro hn
    apply e
    apply List.ext_getElem?
    intro j
    by_cases hj : j < xs.length
    · apply Classical.byContradiction
      intro hne
      exact hn ⟨j, List.mem_range.mpr hj, by simpa using hne⟩
    · rw [List.getElem?_eq_none (by omega), List.getElem?_eq_none (by omega)]

theorem list_items {α : Type} [DecidableEq α] {IK : IKind X α} {h : Heap} {xs ys : List α} {i1 i2 : Array Value} (h1 : Vs h (xs.map IK.toD) i1.toList) (h2 : Vs h (ys.map IK.toD) i2.toList) (s : Shared) (hs : s.heap = h) (A : Around) (hu : A.units < cLine) :
    ∀ j (h1 : j < i1.size) (h2 : j < i2.size), SeqAt.EqAt A s i1[j] i2[j] (decide (xs[j]? = ys[j]?)) := fun j hj1 hj2 => by
  have z1 : i1.size = xs.length := by have := h1.length; simp at this; omega
  have z2 : i2.size = ys.length := by have := h2.length; simp at this; omega
  have e1 : xs[j]? = some xs[j] := List.getElem?_eq_getElem (by omega)
  have e2 : ys[j]? = some ys[j] := List.getElem?_eq_getElem (by omega)
  obtain ⟨v, hv, V1⟩ := h1.get j (IK.toD xs[j]) (by rw [List.getElem?_map, e1]; rfl)
  obtain ⟨w, hw, V2⟩ := h2.get j (IK.toD ys[j]) (by rw [List.getElem?_map, e2]; rfl)
  rw [Array.getElem?_toList, Array.getElem?_eq_getElem hj1] at hv
  rw [Array.getElem?_toList, Array.getElem?_eq_getElem hj2] at hw
  cases hv
  cases hw
  have := eqAt_item (A := A) (s := s) (IK.cmp xs[j] ys[j]) hu (hs ▸ V1) (hs ▸ V2)
  have eb : decide (xs[j]? = ys[j]?) = decide (xs[j] = ys[j]) := by rw [e1, e2]; simp
  rw [eb]; exact this

theorem listR {h : Heap} {r : Res} {ds : List D} {v : Value} (hr : r = .lst ds ∨ r = .new ds) (ha : AR h r v) : ∃ a, v = .ref a ∧ LI h a ds := by
  rcases hr with rfl | rfl <;> exact ha
theorem CM.listNe {n : Nat} (hA : Rm n A) {α : Type} [DecidableEq α] (IK : IKind X α) {r1 r2 : Res} {xs ys : List α} {Q : Bool → Prop} (h1 : r1 = .lst (xs.map IK.toD) ∨ r1 = .new (xs.map IK.toD)) (h2 : r2 = .lst (ys.map IK.toD) ∨ r2 = .new (ys.map IK.toD)) (q : Q (!decide (xs = ys))) :
    CM X A g env ρ σ .NotEq r1 r2 Q := fun s va vb S ha hb => by
  have hu : A.units + 10 < cLine := by have := hA.units; omega
  obtain ⟨a, rfl, i1, hi1, hv1⟩ := listR h1 ha
  obtain ⟨b, rfl, i2, hi2, hv2⟩ := listR h2 hb
  have z1 : i1.size = xs.length := by have := hv1.length; simp at this; omega
  have z2 : i2.size = ys.length := by have := hv2.length; simp at this; omega
  show wpAny _ _ (richCompare .NotEq (.ref a) (.ref b)) _ _ s
  by_cases hsz : i1.size = i2.size
  · refine SeqAt.RcNeAt.lists hi1 hi2 hsz (by omega) (list_items (IK := IK) hv1 hv2 s rfl A.in1 (by simp only [Around.in1_units]; omega)) X.prog X.w _ _ ⟨_, s.heap, s.toks, rfl, rfl, .refl _, ?_⟩
    rw [z1, all_eq_range xs ys (by omega)]; exact q
  · refine SeqAt.RcNeAt.lists_lengths hi1 hi2 (by simpa using hsz) (by omega) X.prog X.w _ _ ⟨_, s.heap, s.toks, rfl, rfl, .refl _, ?_⟩
    have : xs ≠ ys := by rintro rfl; omega
    rw [decide_eq_false this] at q; exact q
theorem CM.listEq {n : Nat} (hA : Rm n A) {α : Type} [DecidableEq α] (IK : IKind X α) {r1 r2 : Res} {xs ys : List α} {Q : Bool → Prop} (h1 : r1 = .lst (xs.map IK.toD) ∨ r1 = .new (xs.map IK.toD)) (h2 : r2 = .lst (ys.map IK.toD) ∨ r2 = .new (ys.map IK.toD)) (q : Q (decide (xs = ys))) :
    CM X A g env ρ σ .Eq r1 r2 Q := fun s va vb S ha hb => by
  have hu : A.units + 10 < cLine := by have := hA.units; omega
  obtain ⟨a, rfl, i1, hi1, hv1⟩ := listR h1 ha
  obtain ⟨b, rfl, i2, hi2, hv2⟩ := listR h2 hb
  have z1 : i1.size = xs.length := by have := hv1.length; simp at this; omega
  have z2 : i2.size = ys.length := by have := hv2.length; simp at this; omega
  show wpAny _ _ (richCompare .Eq (.ref a) (.ref b)) _ _ s
  by_cases hsz : i1.size = i2.size
  · refine SeqAt.RcAt.lists hi1 hi2 hsz (by omega) (list_items (IK := IK) hv1 hv2 s rfl A.in1 (by simp only [Around.in1_units]; omega)) X.prog X.w _ _ ⟨_, s.heap, s.toks, rfl, rfl, .refl _, ?_⟩
    rw [z1, all_eq_range xs ys (by omega)]; exact q
  · refine SeqAt.RcAt.lists_lengths hi1 hi2 (by simpa using hsz) (by omega) X.prog X.w _ _ ⟨_, s.heap, s.toks, rfl, rfl, .refl _, ?_⟩
    have : xs ≠ ys := by rintro rfl; omega
    rw [decide_eq_false this] at q; exact q
end
end Mine

namespace Mine
open PySem PySem.W PyProof.Rows
set_option maxRecDepth 100000 in
set_option maxHeartbeats 8000000 in
open_top hd02 for PySem.Challenge.rw_br0035_02
end Mine

namespace Mine
open PySem PySem.W PySem.Calls PyProof.Rows

noncomputable def CC (w : World) (mg mb : Str → Option Value) : Cx := ⟨PySem.Challenge.pw_br0035_02, w, hd02.heap_39 w.params, mg, mb⟩

structure Nms (X : Cx) : Prop where
  len : X.mg "len" = none ∧ X.mb "len" = some (.builtin "len")
  min : X.mg "min" = none ∧ X.mb "min" = some (.builtin "min")
  max : X.mg "max" = none ∧ X.mb "max" = some (.builtin "max")
  range : X.mg "range" = none ∧ X.mb "range" = some (.type "range")
  enumerate : X.mg "enumerate" = none ∧ X.mb "enumerate" = some (.type "enumerate")
  int : X.mg "int" = none ∧ X.mb "int" = some (.type "int")
  set : X.mg "set" = none ∧ X.mb "set" = some (.type "set")
  map : X.mg "map" = none ∧ X.mb "map" = some (.type "map")
  all : X.mg "all" = none ∧ X.mb "all" = some (.builtin "all")
  list : X.mg "list" = none ∧ X.mb "list" = some (.type "list")
  zip : X.mg "zip" = none ∧ X.mb "zip" = some (.type "zip")
  tuple : X.mg "tuple" = none ∧ X.mb "tuple" = some (.type "tuple")

theorem dlc (w : World) (mg mb : Str → Option Value) : DLc (CC w mg mb).K 189 := ⟨by with_unfolding_all rfl, by with_unfolding_all rfl, by with_unfolding_all rfl, by with_unfolding_all rfl, by with_unfolding_all rfl, by with_unfolding_all rfl⟩

theorem true_stay : Stay (fun _ => True) := fun _ _ _ _ => trivial

set_option maxHeartbeats 4000000 in
theorem ident_fn (w : World) (mg mb : Str → Option Value) (N : Nms (CC w mg mb)) (d1 d2 : D) (b : Bool) (hd : ItemD d1 d2 b) :
    FnP (CC w mg mb) (fun _ => True) 2 (.ref 100) [.d d1, .d d2] [] (fun r => r = .d (.val (.bool b))) := by
  refine FnP.enter ["elements"] (fun h ds => ∃ ds0, ArgsD h [.d d1, .d d2] ds0 ∧ ds = ds0.take 0 ++ [.tup (ds0.drop 0)]) true_stay (fun A s vs hg hl ha => ?_) (by rfl) (by rfl) (by rfl) (by rfl) (by rfl) (by rfl) (by rfl) (by rfl) (by rfl) (by rfl) (by rfl) (by rfl) ?_
  · refine bind_star 0 ?_ (by simp) (by rfl) hl (by simp) ha
    match vs, hl with
    | [a, b], _ => rfl
  · rintro A g L ds hA hg _ ⟨ds0, ⟨e1, _, rfl, rfl, e2, _, rfl, rfl, rfl⟩, rfl⟩
    dsimp only [envF, callEnvC, newEnv, List.take_zero, List.drop_zero, List.nil_append]
    refine Xs.cons (X1.tryOk (Xs.cons (X1.ret (Ev.cmp (Ev.lenSet2 hA N.len.1 N.len.2 N.set.1 N.set.2 (by rfl) hd (Ev.cint (CM.intEq ?_)) (by rfl) (by rfl) (by rfl))))))
    cases b <;> rfl

/-! rows: tuples, or lists that stand -/
def SR (k : Bool) (xs : List D) : Res := if k then .lst xs else .d (.tup xs)
def SD (k : Bool) (g : Heap) (d : D) (xs : List D) : Prop := if k then ∃ a, d = .val (.ref a) ∧ LI g a xs else d = .tup xs
theorem SD.seq {k : Bool} {g : Heap} {d : D} {xs : List D} (h : SD k g d xs) : SeqD g d xs := by
  cases k with
  | false => exact .inl h
  | true => exact .inr h
theorem SD.of {k : Bool} {g : Heap} {d : D} {xs : List D} (h : ArgD g (SR k xs) d) : SD k g d xs := by
  cases k with
  | false => exact h
  | true => exact h
theorem SD.ar {k : Bool} {g h : Heap} {d : D} {v : Value} {xs : List D} (hd : SD k g d xs) (x : Ext g h) (hv : V h d v) : AR h (SR k xs) v := by
  cases k with
  | false => simp only [SD, Bool.false_eq_true, if_false] at hd; subst hd; exact hv
  | true =>
    simp only [SD, if_true] at hd
    obtain ⟨a, rfl, hl⟩ := hd
    simp only [V] at hv
    exact ⟨a, hv, hl.ext x⟩
theorem SD.two {k : Bool} {g h : Heap} {d1 d2 : D} {vs : List Value} {x1 x2 : List D} (h1 : SD k g d1 x1) (h2 : SD k g d2 x2) (x : Ext g h) (hv : Vs h [d1, d2] vs) : ARs h [SR k x1, SR k x2] vs := by
  obtain ⟨v, ws, e, a, b⟩ := (by simpa only [Vs] using hv : ∃ v ws, vs = v :: ws ∧ V h d1 v ∧ ∃ v ws', ws = v :: ws' ∧ V h d2 v ∧ ws' = [])
  obtain ⟨w, ws', e2, c, e3⟩ := b
  subst e3 e2 e
  exact ⟨v, _, rfl, h1.ar x a, w, _, rfl, h2.ar x c, rfl⟩

set_option maxHeartbeats 4000000 in
theorem maximum_fn (w : World) (mg mb : Str → Option Value) (N : Nms (CC w mg mb)) (k : Bool) (x1 x2 : List D) (z1 : x1.length < 100) (z2 : x2.length < 100) :
    FnP (CC w mg mb) (fun _ => True) 2 (.ref 55) [SR k x1, SR k x2] [] (fun r => r = .d (.int (max x1.length x2.length : Nat))) := by
  refine FnP.enter ["sequences"] (fun h ds => ∃ ds0, ArgsD h [SR k x1, SR k x2] ds0 ∧ ds = ds0.take 0 ++ [.tup (ds0.drop 0)]) true_stay (fun A s vs hg hl ha => ?_) (by rfl) (by rfl) (by rfl) (by rfl) (by rfl) (by rfl) (by rfl) (by rfl) (by rfl) (by rfl) (by rfl) (by rfl) ?_
  · refine bind_star 0 ?_ (by simp) (by rfl) hl (by simp) ha
    match vs, hl with
    | [a, b], _ => rfl
  · rintro A g L ds hA hg _ ⟨ds0, ⟨e1, _, rfl, h1, e2, _, rfl, h2, rfl⟩, rfl⟩
    dsimp only [envF, callEnvC, newEnv, List.take_zero, List.drop_zero, List.nil_append]
    refine Xs.cons (X1.ret (Ev.maxLen2 hA N.max N.map N.len (by rfl) (SD.of h1).seq (SD.of h2).seq (by omega) (by omega) rfl (by rfl) (by rfl) (by rfl) (by rfl)))

set_option maxHeartbeats 4000000 in
theorem quick_fn (w : World) (mg mb : Str → Option Value) (N : Nms (CC w mg mb)) (I : Addr) (q : Int) (r : Bool) (k : Bool) (x1 x2 : List D) (b : Bool) (z1 : x1.length < 100) (z2 : x2.length < 100)
    (hid : FnP (CC w mg mb) (fun _ => True) 3 (.ref 100) [SR k x1, SR k x2] [] (fun r => r = .d (.val (.bool b)))) :
    FnP (CC w mg mb) (fun h => Inst 189 100 h I q r) 4 (.ref 93) [.d (.val (.ref I)), SR k x1, SR k x2] [] (fun r => r = if b then .d (.int 0) else if x1.isEmpty || x2.isEmpty then .d (.int (max x1.length x2.length : Nat)) else .d (.val .none)) := by
  refine FnP.enter ["self", "sequences"] (fun h ds => ∃ ds0, ArgsD h [.d (.val (.ref I)), SR k x1, SR k x2] ds0 ∧ ds = ds0.take 1 ++ [.tup (ds0.drop 1)]) Inst.stay (fun A s vs hg hl ha => ?_) (by rfl) (by rfl) (by rfl) (by rfl) (by rfl) (by rfl) (by rfl) (by rfl) (by rfl) (by rfl) (by rfl) (by rfl) ?_
  · refine bind_star 1 ?_ (by simp) (by rfl) hl (by simp) ha
    match vs, hl with
    | [a, b, c], _ => rfl
  · rintro A g L ds hA hg hi ⟨ds0, ⟨e0, _, rfl, rfl, e1, _, rfl, h1, e2, _, rfl, h2, rfl⟩, rfl⟩
    dsimp only [envF, callEnvC, newEnv, List.take_succ_cons, List.take_zero, List.drop_succ_cons, List.drop_zero, List.nil_append, List.cons_append]
    have s1 := SD.of h1
    have s2 := SD.of h2
    refine Xs.cons (X1.ite (Tr.not (Tr.plain (Ev.name (.tup [e1, e2]) (by rfl) (by rfl) (TV.tup (by simp) ?_)))))
    rw [if_neg (by simp)]
    refine Xs.nil ?_
    refine Xs.cons (X1.ite (Tr.cmp (Ev.callB N.len.1 N.len.2 (Es.cons (Ev.name (.tup [e1, e2]) (by rfl) (by rfl) (Es.nil (CB.lenT (by simp) (Ev.cint (CM.intEq ?_)))))) (by rfl) (by rfl) (by rfl)) (by rfl)))
    rw [if_neg (by simp)]
    refine Xs.nil ?_
    refine Xs.cons (X1.ite (Tr.plain (Ev.methodS (P := fun h => Inst 189 100 h I q r) (by rfl) (fun h x => hi.ext x) (GetA.static (p := 102) (f := 100) (dlc w mg mb) (by decide) (by with_unfolding_all rfl) (by with_unfolding_all rfl) (by with_unfolding_all rfl) (by decide +kernel) (by with_unfolding_all rfl))
      (As.star (fr := []) (hA.mono (by omega)) (by with_unfolding_all rfl) (fun _ _ => trivial) (fun _ _ => rfl) (by rfl) (by simp) (fun vs h x hv => ⟨[SR k x1, SR k x2], SD.two s1 s2 x hv, hid.mono fun r hr => ?_⟩)))))
    subst hr
    refine TV.bool ?_
    cases b with
    | true =>
      rw [if_pos rfl]
      exact Xs.cons (X1.ret (Ev.cint rfl))
    | false =>
      rw [if_neg (by simp)]
      refine Xs.nil ?_
      refine Xs.cons (X1.ite (Tr.not (Tr.plain (Ev.callB N.all.1 N.all.2 (Es.cons (Ev.name (.tup [e1, e2]) (by rfl) (by rfl) (Es.nil (CB.all2 hA s1.seq s2.seq (by omega) (by omega) ?_)))) (by rfl) (by rfl) (by rfl)))))
      refine TV.bool ?_
      by_cases he : (x1.isEmpty || x2.isEmpty) = true
      · have : (!x1.isEmpty && !x2.isEmpty) = false := by
          cases h1 : x1.isEmpty <;> cases h2 : x2.isEmpty <;> simp_all
        rw [this, if_pos (by rfl : (!false) = true)]
        refine Xs.cons (X1.ret (Ev.methodS (P := fun h => Inst 189 100 h I q r) (by rfl) (fun h x => hi.ext x) (GetA.static (p := 57) (f := 55) (dlc w mg mb) (by decide) (by with_unfolding_all rfl) (by with_unfolding_all rfl) (by with_unfolding_all rfl) (by decide +kernel) (by with_unfolding_all rfl))
          (As.star (fr := []) (hA.mono (by omega)) (by with_unfolding_all rfl) (fun _ _ => trivial) (fun _ _ => rfl) (by rfl) (by simp) (fun vs h x hv => ⟨[SR k x1, SR k x2], SD.two s1 s2 x hv, (maximum_fn w mg mb N k x1 x2 z1 z2).mono fun r hr => ?_⟩))))
        subst hr
        show _ = _
        rw [if_neg (by simp), if_pos he]
      · have : (!x1.isEmpty && !x2.isEmpty) = true := by
          cases h1 : x1.isEmpty <;> cases h2 : x2.isEmpty <;> simp_all
        rw [this, if_neg (by decide : ¬ (!true) = true)]
        refine Xs.nil (Xs.cons (X1.ret (Ev.cnone ?_)))
        show _ = _
        rw [if_neg (by simp), if_neg he]
end Mine

namespace Mine
open PySem PySem.W PySem.Calls PyProof.Rows

/-- the table, right where it has been filled -/
def Tb (G : Int → Int → Int) (f : List Int → Option D) (S : Int → Int → Prop) : Prop := ∀ a b, S a b → f [a, b] = some (.int (G a b))
theorem Tb.set {G : Int → Int → Int} {f : List Int → Option D} {S : Int → Int → Prop} (h : Tb G f S) {a b v : Int} (hv : v = G a b) : Tb G (Mine.setT f [a, b] (.int v)) (fun a' b' => S a' b' ∨ (a' = a ∧ b' = b)) := fun a' b' hs => by
  by_cases e : a' = a ∧ b' = b
  · obtain ⟨rfl, rfl⟩ := e; simp [Mine.setT, hv]
  · have n : ([a', b'] : List Int) ≠ [a, b] := by intro h; simp at h; exact e h
    simp only [Mine.setT, n, if_false]
    exact h a' b' (hs.resolve_right e)
theorem Tb.mono {G : Int → Int → Int} {f : List Int → Option D} {S S' : Int → Int → Prop} (h : Tb G f S) (k : ∀ a b, S' a b → S a b) : Tb G f S' := fun a b hs => h a b (k a b hs)

theorem lookup_two {σ : Sig} {a b : Addr} {c : Cell} (h : b ≠ a) : (σ.put a c) b = σ b := Sig.put_ne _ _ h

set_option maxHeartbeats 4000000 in
theorem unres_fn (w : World) (mg mb : Str → Option Value) (N : Nms (CC w mg mb)) (I : Addr) (q : Int) (r : Bool) (k : Bool) {α : Type} [DecidableEq α] (IK : IKind (CC w mg mb) α) (xs ys : List α) (G : Int → Int → Int) (hG : URec xs ys G)
    (z1 : xs.length < 100) (z2 : ys.length < 100)
    (hid : ∀ x y : α, FnP (CC w mg mb) (fun _ => True) 3 (.ref 100) [.d (IK.toD x), .d (IK.toD y)] [] (fun r => r = .d (.val (.bool (decide (x = y)))))) :
    FnP (CC w mg mb) (fun h => Inst 189 100 h I q r) 4 (.ref 172) [.d (.val (.ref I)), SR k (xs.map IK.toD), SR k (ys.map IK.toD)] [] (fun r => r = .d (.int (G xs.length ys.length))) := by
  refine FnP.enter ["self", "s1", "s2"] (fun h ds => ArgsD h [.d (.val (.ref I)), SR k (xs.map IK.toD), SR k (ys.map IK.toD)] ds) Inst.stay (fun A s vs hg hl ha => bind_pos ?_ (by rfl) hl ha) (by rfl) (by rfl) (by rfl) (by rfl) (by rfl) (by rfl) (by rfl) (by rfl) (by rfl) (by rfl) (by rfl) (by rfl) ?_
  · match vs, hl with
    | [a, b, c], _ => rfl
  · rintro A g L ds hA hg hi ⟨e0, _, rfl, rfl, e1, _, rfl, h1, e2, _, rfl, h2, rfl⟩
    dsimp only [envF, callEnvC, newEnv]
    have s1 := (SD.of h1).seq
    have s2 := (SD.of h2).seq
    refine Xs.cons (X1.emptyT (fun a ha haL => ?_) (by rfl) (by rfl))
    refine Xs.cons (IK.empty (fun b hb hbL => ?_) (by rfl) (by rfl))
    have hba : b ≠ a := by rintro rfl; rw [Sig.put_same] at hb; cases hb
    refine Xs.cons (X1.assignD (.int xs.length) (Ev.lenS N.len (by rfl) s1 (by simp; omega) (by simp)) ?_)
    refine Xs.cons (X1.assignD (.int ys.length) (Ev.lenS N.len (by rfl) s2 (by simp; omega) (by simp)) ?_)
    refine Xs.cons (X1.assignD (.int ((xs.length : Int) + ys.length)) (Ev.int (by rfl) rfl) ?_)
    refine Xs.cons (X1.setD hA (by rfl) (a := a) (by rw [Sig.put_ne _ _ (Ne.symm hba), Sig.put_same]) (by omega) (ks := [-1, -1]) (by rfl) (by rfl) ?_)
    let ρ0 : Rho := [("maxdist", .int ((xs.length : Int) + ys.length)), ("len2", .int ys.length), ("len1", .int xs.length), ("da", .val (.ref b)), ("d", .val (.ref a)), ("self", .val (.ref I)), ("s1", e1), ("s2", e2)]
    have hM := hG.corner
    refine Xs.cons ?_
    refine X1.for (Itr.range1 hA N.range.1 N.range.2 (b := (xs.length : Int) + 1) (Ev.bin (Ev.lenS N.len (by rfl) s1 (by simp; omega) ⟨(xs.length : Int), by simp, Ev.cint ⟨_, _, rfl, rfl, rfl⟩⟩)) ⟨by omega, by omega⟩ ?_ (by rfl) (by rfl)) (by rfl)
    rw [show ((xs.length : Int) + 1).toNat = xs.length + 1 by omega]
    refine ⟨fun t ρ' σ' => Kp ρ0 ρ' ∧ (∃ N f, σ' a = some (.dT N f) ∧ N ≤ 1 + 2 * t ∧ f [-1, -1] = some (.int (G (-1) (-1))) ∧ ∀ i : Nat, i < t → f [(i : Int), -1] = some (.int (G i (-1))) ∧ f [(i : Int), 0] = some (.int (G i 0))) ∧ σ' b = some (IK.cell 0 fun _ => none), ⟨show Kp ρ0 ρ0 from Kp.refl_of (by rfl), ⟨_, _, Sig.put_same _ _ _, by omega, ?_, fun i hi => by omega⟩, ?_⟩, ?_, ?_⟩
    · simp [Mine.setT, hM]
    · rw [Sig.put_ne _ _ hba, Sig.put_same]
    · rintro t d ρ' σ₁ hd ⟨hK, ⟨N1, f, hσ, hN, hf0, hf⟩, hσb⟩
      obtain ⟨ht, rfl⟩ := rg_get hd
      rw [show (0 : Int) + (t : Int) * 1 = (t : Int) by omega]
      refine Xs.weaken (("i", .int (t : Nat)) :: ρ0) (hK.cons (by rfl)) ?_
      refine Xs.cons (X1.setD hA (by rfl) hσ (by omega) (ks := [(t : Int), -1]) (by rfl) (by rfl) ?_)
      refine Xs.cons (X1.setD hA (by rfl) (a := a) (Sig.put_same _ _ _) (by omega) (ks := [(t : Int), 0]) (by rfl) (by rfl) ?_)
      refine Xs.nil ⟨Kp.skip (show Kp ρ0 ρ0 from Kp.refl_of (by rfl)) (by rfl), ⟨_, _, Sig.put_same _ _ _, by omega, ?_, fun i hi => ?_⟩, ?_⟩
      · have n1 : ([-1, -1] : List Int) ≠ [(t : Int), 0] := by intro h; simp at h
        have n2 : ([-1, -1] : List Int) ≠ [(t : Int), -1] := by intro h; simp at h <;> omega
        simp only [Mine.setT, n1, n2, if_false]; exact hf0
      · have hl := hG.left i (by omega)
        have hz := hG.zi i (by omega)
        by_cases e : i = t
        · subst e
          constructor
          · simp [Mine.setT, hl]
          · simp [Mine.setT, hz]
        · have n1 : ([(i : Int), -1] : List Int) ≠ [(t : Int), 0] := by intro h; simp at h
          have n2 : ([(i : Int), -1] : List Int) ≠ [(t : Int), -1] := by intro h; simp at h <;> omega
          have n3 : ([(i : Int), 0] : List Int) ≠ [(t : Int), 0] := by intro h; simp at h <;> omega
          have n4 : ([(i : Int), 0] : List Int) ≠ [(t : Int), -1] := by intro h; simp at h
          obtain ⟨p1, p2⟩ := hf i (by omega)
          simp only [Mine.setT, n1, n2, n3, n4, if_false]
          exact ⟨p1, p2⟩
      · rw [Sig.put_ne _ _ hba, Sig.put_ne _ _ hba]; exact hσb
    · rintro ρ' σ₁ ⟨hK, ⟨N1, f, hσ, hN, hf0, hf⟩, hσb⟩
      rw [rg_length] at hf hN
      refine Xs.weaken ρ0 hK ?_
      have tb0 : Tb G f (fun a b => (a = -1 ∧ b = -1) ∨ (b = -1 ∧ 0 ≤ a ∧ a ≤ xs.length) ∨ (b = 0 ∧ 0 ≤ a ∧ a ≤ xs.length)) := fun a' b' hs => by
        rcases hs with ⟨rfl, rfl⟩ | ⟨rfl, h1, h2⟩ | ⟨rfl, h1, h2⟩
        · exact hf0
        · obtain ⟨i, rfl⟩ := Int.eq_ofNat_of_zero_le h1
          exact (hf i (by omega)).1
        · obtain ⟨i, rfl⟩ := Int.eq_ofNat_of_zero_le h1
          exact (hf i (by omega)).2
      clear hf hf0
      refine Xs.cons ?_
      refine X1.for (Itr.range1 hA N.range.1 N.range.2 (b := (ys.length : Int) + 1) (Ev.bin (Ev.lenS N.len (by rfl) s2 (by simp; omega) ⟨(ys.length : Int), by simp, Ev.cint ⟨_, _, rfl, rfl, rfl⟩⟩)) ⟨by omega, by omega⟩ ?_ (by rfl) (by rfl)) (by rfl)
      rw [show ((ys.length : Int) + 1).toNat = ys.length + 1 by omega]
      refine ⟨fun t ρ' σ' => Kp ρ0 ρ' ∧ (∃ N f, σ' a = some (.dT N f) ∧ N ≤ 210 + 2 * t ∧ Tb G f (fun a b => ((a = -1 ∧ b = -1) ∨ (b = -1 ∧ 0 ≤ a ∧ a ≤ xs.length) ∨ (b = 0 ∧ 0 ≤ a ∧ a ≤ xs.length)) ∨ (a = -1 ∧ 0 ≤ b ∧ b < t) ∨ (a = 0 ∧ 0 ≤ b ∧ b < t))) ∧ σ' b = some (IK.cell 0 fun _ => none), ⟨show Kp ρ0 ρ0 from Kp.refl_of (by rfl), ⟨N1, f, hσ, by omega, tb0.mono fun a' b' h => by omega⟩, hσb⟩, ?_, ?_⟩
      · clear hσ hN tb0 hK
        rintro t d ρ' σ₁ hd ⟨hK, ⟨N1, f, hσ, hN, tb⟩, hσb⟩
        obtain ⟨ht, rfl⟩ := rg_get hd
        rw [show (0 : Int) + (t : Int) * 1 = (t : Int) by omega]
        refine Xs.weaken (("j", .int (t : Nat)) :: ρ0) (hK.cons (by rfl)) ?_
        refine Xs.cons (X1.setD hA (by rfl) hσ (by omega) (ks := [-1, (t : Int)]) (by rfl) (by rfl) ?_)
        refine Xs.cons (X1.setD hA (by rfl) (a := a) (Sig.put_same _ _ _) (by omega) (ks := [0, (t : Int)]) (by rfl) (by rfl) ?_)
        refine Xs.nil ⟨Kp.skip (show Kp ρ0 ρ0 from Kp.refl_of (by rfl)) (by rfl), ⟨_, _, Sig.put_same _ _ _, by omega, ((tb.set (hG.top t (by omega)).symm).set (hG.zj t (by omega)).symm).mono fun a' b' h => by omega⟩, ?_⟩
        rw [Sig.put_ne _ _ hba, Sig.put_ne _ _ hba]; exact hσb
      · clear hσ hN tb0 hK hσb
        rintro ρ' σ₁ ⟨hK, ⟨N1, f, hσ, hN, tb⟩, hσb⟩
        rw [rg_length] at tb hN
        refine Xs.weaken ρ0 hK ?_
        refine Xs.cons ?_
        refine X1.for2 hA [("i", _), ("cs1", _)] (ItrT.enum1 hA N.enumerate.1 N.enumerate.2 (by rfl) s1 ?_ (by rfl) (by rfl)) (by rfl) (by
          intro x hx
          simp only [List.mem_cons, List.not_mem_nil, or_false] at hx
          rcases hx with rfl | rfl <;> rfl)
        refine ⟨fun ds hds => enumD_two hds, ?_⟩
        refine ⟨fun t ρ' σ' => Kp ρ0 ρ' ∧ t ≤ xs.length ∧ (∃ N f, σ' a = some (.dT N f) ∧ N ≤ 500 + t * 100 ∧ Tb G f (fun a b => (a = -1 ∧ -1 ≤ b ∧ b ≤ ys.length) ∨ (b = -1 ∧ -1 ≤ a ∧ a ≤ xs.length) ∨ (b = 0 ∧ 0 ≤ a ∧ a ≤ xs.length) ∨ (0 ≤ a ∧ a ≤ t ∧ 0 ≤ b ∧ b ≤ ys.length))) ∧
          ∃ N2 F, σ' b = some (IK.cell N2 F) ∧ N2 ≤ t ∧ ∀ c, F c = if lastOf xs t c = 0 then none else some (.int (lastOf xs t c : Nat)),
          ⟨show Kp ρ0 ρ0 from Kp.refl_of (by rfl), Nat.zero_le _, ⟨N1, f, hσ, by omega, tb.mono fun a' b' h => by omega⟩, 0, _, hσb, Nat.le_refl _, fun c => by simp [lastOf]⟩, ?_, ?_⟩
        · clear hσ hN tb hK hσb
          rintro t dd ρ' σ₁ hd ⟨hK, hle, ⟨N1, f, hσ, hN, tb⟩, N2, F, hσb, hN2, hF⟩
          obtain ⟨dx, hdx, rfl⟩ := enumD_get hd
          simp only [List.getElem?_map, Option.map_eq_some_iff] at hdx
          obtain ⟨x, hx, rfl⟩ := hdx
          have htl : t < xs.length := (List.getElem?_eq_some_iff.mp hx).1
          let ρ1 : Rho := ("cs1", IK.toD x) :: ("i", .int (1 + (t : Int))) :: ρ0
          refine Xs.weaken ρ1 ((hK.cons (by rfl)).cons (by rfl)) ?_
          refine Xs.cons (X1.assignD (.int 0) (Ev.cint rfl) ?_)
          refine Xs.cons ?_
          refine X1.for2 hA [("j", _), ("cs2", _)] (ItrT.enum1 hA N.enumerate.1 N.enumerate.2 (by rfl) s2 ?_ (by rfl) (by rfl)) (by rfl) (by
            intro x hx
            simp only [List.mem_cons, List.not_mem_nil, or_false] at hx
            rcases hx with rfl | rfl <;> rfl)
          refine ⟨fun ds hds => enumD_two hds, ?_⟩
          refine ⟨fun u ρ' σ' => Kp (("db", .int (lastOf ys u x : Nat)) :: ρ1) ρ' ∧ u ≤ ys.length ∧ (∃ N f, σ' a = some (.dT N f) ∧ N ≤ 500 + t * 100 + u ∧ Tb G f (fun a b => ((a = -1 ∧ -1 ≤ b ∧ b ≤ ys.length) ∨ (b = -1 ∧ -1 ≤ a ∧ a ≤ xs.length) ∨ (b = 0 ∧ 0 ≤ a ∧ a ≤ xs.length) ∨ (0 ≤ a ∧ a ≤ t ∧ 0 ≤ b ∧ b ≤ ys.length)) ∨ (a = t + 1 ∧ 0 ≤ b ∧ b ≤ u))) ∧ σ' b = some (IK.cell N2 F),
            ⟨show Kp (("db", .int 0) :: ρ1) (("db", .int 0) :: ρ1) from Kp.refl_of (by rfl), Nat.zero_le _, ⟨N1, f, hσ, by omega, tb.mono fun a' b' h => by omega⟩, hσb⟩, ?_, ?_⟩
          · clear hσ hN tb hK hσb
            rintro u dd ρ'' σ₂ hd2 ⟨hK, hule, ⟨N1, f, hσ, hN, tb⟩, hσb⟩
            obtain ⟨dy, hdy, rfl⟩ := enumD_get hd2
            simp only [List.getElem?_map, Option.map_eq_some_iff] at hdy
            obtain ⟨y, hy, rfl⟩ := hdy
            have hul : u < ys.length := (List.getElem?_eq_some_iff.mp hy).1
            refine Xs.weaken (("cs2", IK.toD y) :: ("j", .int (1 + (u : Int))) :: ("db", .int (lastOf ys u x : Nat)) :: ρ1) ((hK.cons (by rfl)).cons (by rfl)) ?_
            refine Xs.cons (X1.assignD (.int (lastOf xs t y : Nat)) (IK.get hA (Ev.name _ (by rfl) (by rfl) ⟨b, N2, F, rfl, hσb, Ev.name (IK.toD y) (by rfl) (by rfl) ⟨y, rfl, Ev.cint ⟨_, rfl, ?_⟩⟩⟩) (by rfl) (by rfl) (by rfl)) ?_)
            · rw [hF y]
              by_cases e : lastOf xs t y = 0
              · rw [if_pos e, e]; rfl
              · rw [if_neg e]; rfl
            refine Xs.cons (X1.assignD (.int (lastOf ys u x : Nat)) (Ev.name _ (by rfl) (by rfl) rfl) ?_)
            let ρ2 : Int → Int → Rho := fun c v => ("cost", .int c) :: ("db", .int v) :: ("j1", .int (lastOf ys u x : Nat)) :: ("i1", .int (lastOf xs t y : Nat)) :: ("cs2", IK.toD y) :: ("j", .int (1 + (u : Int))) :: ρ1
            have hlast : lastOf ys (u + 1) x = if x = y then u + 1 else lastOf ys u x := by
              show (if ys[u]? = some x then u + 1 else lastOf ys u x) = _
              rw [hy]
              by_cases e : x = y
              · rw [if_pos (by rw [e]), if_pos e]
              · rw [if_neg (by simpa using Ne.symm e), if_neg e]
            have K1 : ∀ v : D, Kp (("j1", .int (lastOf ys u x : Nat)) :: ("i1", .int (lastOf xs t y : Nat)) :: ("cs2", IK.toD y) :: ("j", .int (1 + (u : Int))) :: ρ1) (("j1", .int (lastOf ys u x : Nat)) :: ("i1", .int (lastOf xs t y : Nat)) :: ("cs2", IK.toD y) :: ("j", .int (1 + (u : Int))) :: ("db", v) :: ρ1) := fun v =>
              Kp.cons (Kp.cons (Kp.cons (Kp.cons (Kp.skip (show Kp ρ1 ρ1 from Kp.refl_of (by rfl)) (by rfl)) (by rfl)) (by rfl)) (by rfl)) (by rfl)
            refine Xs.cons (X1.mono (Q := fun f ρ' σ' => f = .nxt ∧ σ' = σ₂ ∧ Kp (ρ2 (if x = y then 0 else 1) (lastOf ys (u + 1) x : Nat)) ρ') (X1.ite (Tr.plain (Ev.method (P := fun h => Inst 189 100 h I q r) (by rfl) (fun h x => hi.ext x) (GetM.own (dlc w mg mb)) (As.plain (fr := []) (hA.mono (by omega)) (by with_unfolding_all rfl) (fun _ _ => trivial) (fun _ _ => rfl) (Es.cons (Ev.name (IK.toD x) (by rfl) (by rfl) (Es.cons (Ev.name (IK.toD y) (by rfl) (by rfl) (Es.nil ((hid x y).mono fun r hr => ?_)))))))))) ?_)
            · subst hr
              refine TV.bool ?_
              by_cases e : x = y
              · rw [decide_eq_true e, if_pos rfl]
                refine Xs.cons (X1.assignD (.int 0) (Ev.cint rfl) ?_)
                refine Xs.cons (X1.assignD (.int (1 + (u : Int))) (Ev.name _ (by rfl) (by rfl) rfl) (Xs.nil ⟨rfl, rfl, ?_⟩))
                rw [hlast, if_pos e, if_pos e, show ((u + 1 : Nat) : Int) = 1 + (u : Int) by omega]
                exact (((K1 _).cons (by rfl)).cons (by rfl)).perm2
              · rw [decide_eq_false e, if_neg (by simp)]
                refine Xs.cons (X1.assignD (.int 1) (Ev.cint rfl) (Xs.nil ⟨rfl, rfl, ?_⟩))
                rw [hlast, if_neg e, if_neg e]
                refine Kp.cons ?_ (by rfl)
                intro p hp
                rcases List.mem_cons.mp hp with rfl | hp
                · rfl
                · exact K1 _ p hp
            · rintro f ρ₃ σ₃ ⟨rfl, rfl, hK3⟩
              refine Xs.weaken (ρ2 (if x = y then 0 else 1) (lastOf ys (u + 1) x : Nat)) hK3 ?_
              have hli := lastOf_le xs y t
              have hlj := lastOf_le ys x u
              refine Xs.cons (X1.setT hA (Ev.mono (Q := fun r => r = .d (.int (G ((t : Int) + 1) ((u : Int) + 1)))) ?_ (fun r hr => ⟨_, hr, Ev.name (.val (.ref a)) (by rfl) (by rfl) ⟨a, N1, f, rfl, hσ, by omega, Ev.ints (by rfl) (by simp) ⟨[1 + (t : Int), 1 + (u : Int)], rfl, ?_⟩⟩⟩)) (by rfl))
              · refine Ev.callB N.min.1 N.min.2 (Es.cons ?_)
                refine Ev.bin (Ev.getD hA (by rfl) hσ (ks := [1 + (t : Int) - 1, 1 + (u : Int) - 1]) (by rfl) (tb _ _ (by omega)) ⟨_, rfl, Ev.int (by rfl) ⟨_, _, rfl, rfl, ?_⟩⟩)
                refine Es.cons (Ev.bin (Ev.getD hA (by rfl) hσ (ks := [1 + (t : Int), 1 + (u : Int) - 1]) (by rfl) (tb _ _ (by omega)) ⟨_, rfl, Ev.int (by rfl) ⟨_, _, rfl, rfl, ?_⟩⟩))
                refine Es.cons (Ev.bin (Ev.getD hA (by rfl) hσ (ks := [1 + (t : Int) - 1, 1 + (u : Int)]) (by rfl) (tb _ _ (by omega)) ⟨_, rfl, Ev.int (by rfl) ⟨_, _, rfl, rfl, ?_⟩⟩))
                refine Es.cons (Ev.bin (Ev.bin (Ev.bin (Ev.getD hA (by rfl) hσ (ks := [(lastOf xs t y : Nat) - 1, (lastOf ys u x : Nat) - 1]) (by rfl) (tb _ _ (by omega)) ⟨_, rfl, Ev.int (by rfl) ⟨_, _, rfl, rfl, ⟨_, rfl, Ev.int (by rfl) ⟨_, _, rfl, rfl, ⟨_, rfl, Ev.int (by rfl) ⟨_, _, rfl, rfl, ?_⟩⟩⟩⟩⟩⟩))))
                refine Es.nil (CB.min4 hA ?_)
                rw [hG.step t u x y hx hy]
                rw [show (1 : Int) + t - 1 = t by omega, show (1 : Int) + u - 1 = u by omega, show (1 : Int) + t = t + 1 by omega, show (1 : Int) + u = u + 1 by omega]
              · refine Xs.nil ⟨?_, by omega, ⟨_, _, Sig.put_same _ _ _, by omega, (tb.set (a := 1 + (t : Int)) (b := 1 + (u : Int)) (by rw [show (1 : Int) + t = t + 1 by omega, show (1 : Int) + u = u + 1 by omega])).mono fun a' b' h => by omega⟩, ?_⟩
                · exact Kp.skip (show Kp (("db", .int (lastOf ys (u + 1) x : Nat)) :: ρ1) (("db", .int (lastOf ys (u + 1) x : Nat)) :: ("j1", .int (lastOf ys u x : Nat)) :: ("i1", .int (lastOf xs t y : Nat)) :: ("cs2", IK.toD y) :: ("j", .int (1 + (u : Int))) :: ρ1) from Kp.cons (Kp.skip (Kp.skip (Kp.skip (Kp.skip (show Kp ρ1 ρ1 from Kp.refl_of (by rfl)) (by rfl)) (by rfl)) (by rfl)) (by rfl)) (by rfl)) (by rfl)
                · rw [Sig.put_ne _ _ hba]; exact hσb
          · clear hσ hN tb hK hσb
            rintro ρ'' σ₂ ⟨hK, hule, ⟨N1, f, hσ, hN, tb⟩, hσb⟩
            rw [enumD_length, List.length_map] at hN tb
            refine Xs.weaken ρ1 hK.of ?_
            refine Xs.cons (IK.set hA (Ev.int (by rfl) ⟨_, rfl, Ev.name (.val (.ref b)) (by rfl) (by rfl) ⟨b, N2, F, rfl, hσb, by omega, Ev.name (IK.toD x) (by rfl) (by rfl) ⟨x, rfl, ?_⟩⟩⟩) (by rfl))
            refine Xs.nil ⟨Kp.skip (Kp.skip (show Kp ρ0 ρ0 from Kp.refl_of (by rfl)) (by rfl)) (by rfl), htl, ⟨N1, f, by rw [Sig.put_ne _ _ (Ne.symm hba)]; exact hσ, by omega, tb.mono fun a' b' h => by omega⟩, N2 + 1, _, Sig.put_same _ _ _, by omega, fun c => ?_⟩
            have hl : lastOf xs (t + 1) c = if x = c then t + 1 else lastOf xs t c := by
              show (if xs[t]? = some c then t + 1 else lastOf xs t c) = _
              rw [hx]
              by_cases e : x = c
              · rw [if_pos (by rw [e]), if_pos e]
              · rw [if_neg (by simpa using e), if_neg e]
            rw [hl]
            by_cases e : x = c
            · rw [if_pos e.symm, if_pos e, if_neg (by omega)]
              congr 2
              omega
            · rw [if_neg (Ne.symm e), if_neg e]; exact hF c
        · clear hσ hN tb hK hσb
          rintro ρ' σ₁ ⟨hK, hle, ⟨N1, f, hσ, hN, tb⟩, _⟩
          rw [enumD_length, List.length_map] at tb
          refine Xs.weaken ρ0 hK ?_
          refine Xs.cons (X1.ret (Ev.getD hA (by rfl) hσ (ks := [(xs.length : Int), (ys.length : Int)]) (by rfl) (tb _ _ (by omega)) rfl))
end Mine

namespace Mine
open PySem PySem.W PySem.Calls PyProof.Rows

set_option maxHeartbeats 4000000 in
theorem seqs1_fn (w : World) (mg mb : Str → Option Value) (N : Nms (CC w mg mb)) (I : Addr) (r : Bool) (x1 x2 : List D) :
    FnP (CC w mg mb) (fun h => Inst 189 100 h I 1 r) 3 (.ref 108) [.d (.val (.ref I)), .d (.tup x1), .d (.tup x2)] [] (fun r => r = .new [.tup x1, .tup x2]) := by
  refine FnP.enter ["self", "sequences"] (fun h ds => ∃ ds0, ArgsD h [.d (.val (.ref I)), .d (.tup x1), .d (.tup x2)] ds0 ∧ ds = ds0.take 1 ++ [.tup (ds0.drop 1)]) Inst.stay (fun A s vs hg hl ha => ?_) (by rfl) (by rfl) (by rfl) (by rfl) (by rfl) (by rfl) (by rfl) (by rfl) (by rfl) (by rfl) (by rfl) (by rfl) ?_
  · refine bind_star 1 ?_ (by simp) (by rfl) hl (by simp) ha
    match vs, hl with
    | [a, b, c], _ => rfl
  · rintro A g L ds hA hg hi ⟨ds0, ⟨e0, _, rfl, rfl, e1, _, rfl, rfl, e2, _, rfl, rfl, rfl⟩, rfl⟩
    dsimp only [envF, callEnvC, newEnv, List.take_succ_cons, List.take_zero, List.drop_succ_cons, List.drop_zero, List.nil_append, List.cons_append]
    refine Xs.cons (X1.ite (Tr.not (Tr.plain (Ev.qval (dlc w mg mb) (by rfl) hi (TV.int ?_) (by rfl)))))
    rw [if_neg (by simp)]
    refine Xs.nil ?_
    refine Xs.cons (X1.ite (Tr.cmp (Ev.qval (dlc w mg mb) (by rfl) hi (Ev.cint (CM.intEq ?_)) (by rfl)) (by rfl)))
    rw [if_pos (by simp)]
    refine Xs.cons (X1.ret (Ev.callT N.list.1 N.list.2 (Es.cons (Ev.name (.tup [.tup x1, .tup x2]) (by rfl) (by rfl) (Es.nil (CB.listT (by simp) rfl)))) (by rfl) (by rfl) (by rfl)))

/-- the free distance of two rows of ints: what __call__ gives -/
def freeD (G : Int → Int → Int) (x1 x2 : List Int) : Int := if x1 = x2 then 0 else if x1.isEmpty || x2.isEmpty then (max x1.length x2.length : Nat) else G x1.length x2.length

theorem ident_rows (w : World) (mg mb : Str → Option Value) (N : Nms (CC w mg mb)) (x y : List Int) : FnP (CC w mg mb) (fun _ => True) 3 (.ref 100) [SR false (x.map .int), SR false (y.map .int)] [] (fun r => r = .d (.val (.bool (decide (x = y))))) :=
  (ident_fn w mg mb N _ _ _ (.tup x y)).pre (fun _ h => h) (by omega)
theorem ident_ints (w : World) (mg mb : Str → Option Value) (N : Nms (CC w mg mb)) (x y : Int) : FnP (CC w mg mb) (fun _ => True) 3 (.ref 100) [.d (.int x), .d (.int y)] [] (fun r => r = .d (.val (.bool (decide (x = y))))) :=
  (ident_fn w mg mb N _ _ _ (.int x y)).pre (fun _ h => h) (by omega)

set_option maxHeartbeats 4000000 in
theorem call1_fn (w : World) (mg mb : Str → Option Value) (N : Nms (CC w mg mb)) (I : Addr) (x1 x2 : List Int) (z1 : x1.length < 100) (z2 : x2.length < 100) (G : Int → Int → Int) (hG : URec x1 x2 G) :
    FnP (CC w mg mb) (fun h => Inst 189 100 h I 1 false) 6 (.ref 186) [.d (.val (.ref I)), .d (.tup (x1.map .int)), .d (.tup (x2.map .int))] [] (fun r => r = .d (.int (freeD G x1 x2))) := by
  refine FnP.enter ["self", "s1", "s2"] (fun h ds => ArgsD h [.d (.val (.ref I)), .d (.tup (x1.map .int)), .d (.tup (x2.map .int))] ds) Inst.stay (fun A s vs hg hl ha => bind_pos ?_ (by rfl) hl ha) (by rfl) (by rfl) (by rfl) (by rfl) (by rfl) (by rfl) (by rfl) (by rfl) (by rfl) (by rfl) (by rfl) (by rfl) ?_
  · match vs, hl with
    | [a, b, c], _ => rfl
  · rintro A g L ds hA hg hi ⟨e0, _, rfl, rfl, e1, _, rfl, rfl, e2, _, rfl, rfl, rfl⟩
    dsimp only [envF, callEnvC, newEnv]
    refine Xs.cons (X1.assignT hA [("s1", _), ("s2", _)] (Ev.method (P := fun h => Inst 189 100 h I 1 false) (by rfl) (fun h x => hi.ext x) (GetM.fn (dlc w mg mb) (by decide) (by with_unfolding_all rfl) (by with_unfolding_all rfl))
      (As.plain (fr := [.d (.val (.ref I))]) (P := fun h => Inst 189 100 h I 1 false) (n := 3) (hA.mono (by omega)) (by with_unfolding_all rfl) (fun h x => hi.ext x) (fun _ _ => ⟨_, _, rfl, by simp [AR, V], rfl⟩)
        (Es.cons (Ev.name _ (by rfl) (by rfl) (Es.cons (Ev.name _ (by rfl) (by rfl) (Es.nil ((seqs1_fn w mg mb N I false (x1.map .int) (x2.map .int)).mono fun r hr => ?_)))))))) (by rfl) ?_ (by rfl) (by rfl))
    rotate_left
    · intro x hx
      simp only [List.mem_cons, List.not_mem_nil, or_false] at hx
      rcases hx with rfl | rfl <;> rfl
    refine ⟨[.tup (x1.map .int), .tup (x2.map .int)], .inr (.inr hr), rfl, ?_⟩
    let qr : D := if decide (x1 = x2) then .int 0 else if (x1.map D.int).isEmpty || (x2.map D.int).isEmpty then .int (max (x1.map D.int).length (x2.map D.int).length : Nat) else .val .none
    refine Xs.cons (X1.assignD qr (Ev.method (P := fun h => Inst 189 100 h I 1 false) (by rfl) (fun h x => hi.ext x) (GetM.fn (dlc w mg mb) (by decide) (by with_unfolding_all rfl) (by with_unfolding_all rfl))
      (As.plain (fr := [.d (.val (.ref I))]) (P := fun h => Inst 189 100 h I 1 false) (n := 4) (hA.mono (by omega)) (by with_unfolding_all rfl) (fun h x => hi.ext x) (fun _ _ => ⟨_, _, rfl, by simp [AR, V], rfl⟩)
        (Es.cons (Ev.name (.tup (x1.map .int)) (by rfl) (by rfl) (Es.cons (Ev.name (.tup (x2.map .int)) (by rfl) (by rfl) (Es.nil ((quick_fn w mg mb N I 1 false false (x1.map .int) (x2.map .int) (decide (x1 = x2)) (by simpa using z1) (by simpa using z2) (ident_rows w mg mb N x1 x2)).mono fun r hr => ?_)))))))) ?_)
    · rw [hr]
      show _ = Res.d (if decide (x1 = x2) then _ else _)
      split
      · rfl
      · split <;> rfl
    have hq : (qr = .int (freeD G x1 x2)) ∨ (qr = .val .none ∧ freeD G x1 x2 = G x1.length x2.length) := by
      show ((if decide (x1 = x2) then (D.int 0) else _) = _) ∨ ((if decide (x1 = x2) then (D.int 0) else _) = _ ∧ _)
      by_cases he : x1 = x2
      · left; rw [if_pos (by simpa using he), freeD, if_pos he]
      · by_cases hem : (x1.isEmpty || x2.isEmpty) = true
        · have hem' : ((x1.map D.int).isEmpty || (x2.map D.int).isEmpty) = true := by simpa using hem
          left; rw [if_neg (by simpa using he), if_pos hem', freeD, if_neg he, if_pos hem]; simp
        · have hem' : ¬ ((x1.map D.int).isEmpty || (x2.map D.int).isEmpty) = true := by simpa using hem
          right; rw [if_neg (by simpa using he), if_neg hem', freeD, if_neg he, if_neg hem]; exact ⟨rfl, rfl⟩
    clear_value qr
    rcases hq with rfl | ⟨rfl, he⟩
    · refine Xs.cons (X1.ite (Tr.cmp (Ev.name (.int (freeD G x1 x2)) (by rfl) (by rfl) (Ev.cnone (CM.isNot (v := .none) (.inr ⟨_, rfl⟩) ?_))) (by rfl)))
      dsimp only
      rw [if_pos rfl]
      exact Xs.cons (X1.ret (Ev.name (.int (freeD G x1 x2)) (by rfl) (by rfl) rfl))
    · refine Xs.cons (X1.ite (Tr.cmp (Ev.name (.val .none) (by rfl) (by rfl) (Ev.cnone (CM.isNot (v := .none) (.inl rfl) ?_))) (by rfl)))
      dsimp only
      rw [if_neg (by simp)]
      refine Xs.nil (Xs.cons (X1.ite (Tr.plain (Ev.restricted (dlc w mg mb) (by rfl) hi (TV.bool ?_) (by rfl)))))
      rw [if_neg (by simp)]
      refine Xs.nil (Xs.cons (X1.ret (Ev.method (P := fun h => Inst 189 100 h I 1 false) (by rfl) (fun h x => hi.ext x) (GetM.fn (dlc w mg mb) (by decide) (by with_unfolding_all rfl) (by with_unfolding_all rfl))
        (As.plain (fr := [.d (.val (.ref I))]) (P := fun h => Inst 189 100 h I 1 false) (n := 4) (hA.mono (by omega)) (by with_unfolding_all rfl) (fun h x => hi.ext x) (fun _ _ => ⟨_, _, rfl, by simp [AR, V], rfl⟩)
          (Es.cons (Ev.name (.tup (x1.map .int)) (by rfl) (by rfl) (Es.cons (Ev.name (.tup (x2.map .int)) (by rfl) (by rfl) (Es.nil ((unres_fn w mg mb N I 1 false false (intIK _) x1 x2 G hG z1 z2 (ident_ints w mg mb N)).mono fun r hr => ?_))))))))))
      rw [he]
      exact hr

set_option maxHeartbeats 4000000 in
theorem dist1_fn (w : World) (mg mb : Str → Option Value) (N : Nms (CC w mg mb)) (I : Addr) (x1 x2 : List Int) (z1 : x1.length < 100) (z2 : x2.length < 100) (G : Int → Int → Int) (hG : URec x1 x2 G) :
    FnP (CC w mg mb) (fun h => Inst 189 100 h I 1 false) 8 (.ref 65) [.d (.val (.ref I)), .d (.tup (x1.map .int)), .d (.tup (x2.map .int))] [] (fun r => r = .d (.int (freeD G x1 x2))) := by
  refine FnP.enter ["self", "sequences"] (fun h ds => ∃ ds0, ArgsD h [.d (.val (.ref I)), .d (.tup (x1.map .int)), .d (.tup (x2.map .int))] ds0 ∧ ds = ds0.take 1 ++ [.tup (ds0.drop 1)]) Inst.stay (fun A s vs hg hl ha => ?_) (by rfl) (by rfl) (by rfl) (by rfl) (by rfl) (by rfl) (by rfl) (by rfl) (by rfl) (by rfl) (by rfl) (by rfl) ?_
  · refine bind_star 1 ?_ (by simp) (by rfl) hl (by simp) ha
    match vs, hl with
    | [a, b, c], _ => rfl
  · rintro A g L ds hA hg hi ⟨ds0, ⟨e0, _, rfl, rfl, e1, _, rfl, rfl, e2, _, rfl, rfl, rfl⟩, rfl⟩
    dsimp only [envF, callEnvC, newEnv, List.take_succ_cons, List.take_zero, List.drop_succ_cons, List.drop_zero, List.nil_append, List.cons_append]
    refine Xs.cons (X1.ret (Ev.callObj (n := 6) (hA.mono (by omega)) (dlc w mg mb) (by rfl) hi (f := 186) (by with_unfolding_all rfl) (by with_unfolding_all rfl) (by with_unfolding_all rfl) (by rfl) (by simp) (fun vs h x hv => ⟨[.d (.tup (x1.map .int)), .d (.tup (x2.map .int))], SD.two (k := false) (g := g) rfl rfl x hv, call1_fn w mg mb N I x1 x2 z1 z2 G hG⟩) (by rfl) (by rfl)))
end Mine

namespace Mine
open PySem PySem.W PySem.Calls PyProof.Rows Builtin.ObjectAttr

theorem dls (w : World) (mg mb : Str → Option Value) : DLs (CC w mg mb).K 189 := ⟨by with_unfolding_all rfl, by with_unfolding_all rfl⟩

section
variable {X : Cx} {A : Around} {g : Heap} {env : Env} {ρ : Rho} {σ : Sig} {E : Value → Shared → Prop}
/-- a static method read from an object of one's own -/
theorem Ev.attrStatic {C I dx p : Addr} {x name : Str} {px pos : Pos} {f : Addr} {fl : List Value} {es : List DictEntry} {n : Nat} {Q : Res → Prop} (c : DLc X.K C) (hI : σ I = some (.obj (instObj C dx))) (hdx : σ dx = some (.obj (dictOf es n))) (hl : ρ.lookup x = some (.val (.ref I)))
    (hn : getL name es = some none) (hf : findIn X.K (.ref C) name = some (some (.ref p)))
    (hget : specialIn X.K (.ref p) "__get__" = some (some (.builtin "staticmethod.__get__"))) (ht : takesIn X.K (.ref p) = some false) (hc : copiedNames.contains name = false) (hp : recIn X.K p "staticmethod" = some (.ref f :: fl)) (q : Q (.d (.val (.ref f)))) (ho : varOk env x = true := by rfl)
    (he : eval (.Attribute (.Name x px) name pos) env = (do
      let o ← eval (.Name x px) env
      standAt pos.atName
      let r ← holding [o] (getAttr o name true)
      letTemporaryGo (.Name x px) o r
      pure r) := by with_unfolding_all rfl) : Ev X A g env ρ σ (.Attribute (.Name x px) name pos) Q := fun s S => by
  have HN : Ev X A g env ρ σ (.Name x px) (fun r => r = .d (.val (.ref I))) := Ev.name _ hl ho rfl
  refine Attribute_any_ (Mine.use (HN s S) S fun v r' h1 tk1 S1 x1 y1 e1 => ?_) he
  subst e1
  simp only [VR, V] at y1
  subst y1
  have hat : InstAt h1 I (instObj C dx) C (some (dictOf es n)) := ⟨(S1.own I _ hI).1.1, rfl, rfl, (S1.own dx _ hdx).1.1⟩
  exact getattr_static (s := { s with heap := h1, toks := tk1 }) c S1.gl hat hn hf hget ht hc hp rfl (.mk (.d (.val (.ref f))) x1 (by simp [VR, V]) q)
end

/-- what the dict of a made object holds -/
def MadeL (es : List DictEntry) (q : Int) (r : Bool) : Prop := (∃ t, getL "qval" es = some (some (.int q t))) ∧ getL "test_func" es = some (some (.ref 100)) ∧ getL "restricted" es = some (some (.bool r)) ∧ ∀ nm ∈ methNames, getL nm es = some none
theorem MadeL.of (h1 h2 h3 h4 : Int) (t1 t2 t3 t4 t : Tok) (q : Int) (r : Bool) : MadeL [⟨h1, .str "qval" t1, .int q t⟩, ⟨h2, .str "test_func" t2, .ref 100⟩, ⟨h3, .str "external" t3, .bool true⟩, ⟨h4, .str "restricted" t4, .bool r⟩] q r := by
  refine ⟨⟨t, by rfl⟩, by rfl, by rfl, fun nm hm => ?_⟩
  simp only [methNames, List.mem_cons, List.not_mem_nil, or_false] at hm
  rcases hm with rfl | rfl | rfl | rfl | rfl | rfl | rfl | rfl <;> rfl

def noSig : Sig := fun _ => none
abbrev initNames : List Str := ["self", "qval", "test_func", "external", "restricted"]
set_option maxHeartbeats 4000000 in
theorem init_fn (w : World) (mg mb : Str → Option Value) {A : Around} {g : Heap} {s : Shared} {vs : List Value} {kw : List (Str × Value)} {R : Result → Shared → Prop} {I dx : Addr} {q : Int} {t : Tok} {r : Bool} (hA : Rm 2 A) (hg : GX (CC w mg mb) g) (x0 : Ext g s.heap)
    (hI : s.heap.get? I = some (instObj 189 dx)) (hdx : s.heap.get? dx = some emptyDict) (gI : g.get? I = none) (gdx : g.get? dx = none) (hne : I ≠ dx)
    (hbind : ∀ fd : FuncData, (∃ o, (CC w mg mb).K.lookup 165 = some o ∧ o.data = .func fd) → wpAny (model (CC w mg mb).prog (CC w mg mb).w) A.in1 (bindArgs fd ⟨vs, kw⟩) (fun binds s' => binds = initNames.zip [.ref I, .int q t, .none, .bool true, .bool r] ∧ s' = s) NoE s)
    (k : ∀ h' tk es n, Ext g h' → h'.get? I = some (instObj 189 dx) → h'.get? dx = some (dictOf es n) → MadeL es q r → R (.ok (.ret .none)) { s with heap := h', toks := tk }) :
    codeAny (model (CC w mg mb).prog (CC w mg mb).w) A (.call (.ref 165) ⟨vs, kw⟩) R s := by
  let σ0 : Sig := (noSig.put dx (.obj (dictOf [] 0))).put I (.obj (instObj 189 dx))
  have s1 : σ0 I = some (.obj (instObj 189 dx)) := Sig.put_same _ _ _
  have s2 : σ0 dx = some (.obj (dictOf [] 0)) := by show (noSig.put dx _).put I _ dx = _; rw [Sig.put_ne _ _ (Ne.symm hne), Sig.put_same]
  have hput : ∀ c : Cell, (σ0.put dx c) I = some (.obj (instObj 189 dx)) := fun c => by rw [Sig.put_ne _ _ hne]; exact s1
  refine init_enter (X := CC w mg mb) (σ := σ0) (n := 1) initNames [.val (.ref I), .int q, .val .none, .val (.bool true), .val (.bool r)] [.ref I, .int q t, .none, .bool true, .bool r] hA hg x0 (fun a c e => ?_) (hbind _ ⟨_, by rfl, by rfl⟩) (by rfl) ?_ (by rfl) (by rfl) (by rfl) (by rfl) (by rfl) (by rfl) (by rfl) (by rfl) (by rfl) (by rfl) (by rfl) (by rfl) ?_
  · by_cases e1 : a = I
    · subst e1; rw [s1] at e; cases e; exact ⟨⟨hI, by simp, by simp⟩, gI⟩
    · by_cases e2 : a = dx
      · subst e2; rw [s2] at e; cases e; exact ⟨⟨hdx, by simp, by simp⟩, gdx⟩
      · have : σ0 a = none := by show (noSig.put dx _).put I _ a = _; rw [Sig.put_ne _ _ e1, Sig.put_ne _ _ e2]; rfl
        rw [this] at e; cases e
  · exact .cons (by simp [V]) (.cons (by simp [V]) (.cons (by simp [V]) (.cons (by simp [V]) (.cons (by simp [V]) .nil))))
  · intro A L hA
    dsimp only [envF, callEnvC, newEnv]
    refine Xs.cons (X1.setAttr (dlc w mg mb) (dls w mg mb) s1 s2 (by rfl) (Ev.name (.int q) (by rfl) (by rfl) ⟨_, rfl, by simp, fun v tk hv => ?_⟩) (by with_unfolding_all rfl) (by rfl) (by rfl) (by rfl) (by rfl))
    obtain ⟨t1, rfl⟩ := hv
    refine Xs.cons (X1.setAttr (dlc w mg mb) (dls w mg mb) (hput _) (Sig.put_same _ _ _) (by rfl) (Ev.or2 (Ev.name (.val .none) (by rfl) (by rfl) (TV.none ?_))) (by with_unfolding_all rfl) (by rfl) (by rfl) (by rfl) (by rfl))
    refine Ev.attrStatic (dlc w mg mb) (hput _) (Sig.put_same _ _ _) (by rfl) (by rfl) (p := 102) (f := 100) (by with_unfolding_all rfl) (by with_unfolding_all rfl) (by with_unfolding_all rfl) (by decide +kernel) (by with_unfolding_all rfl) ⟨_, rfl, by simp, fun v tk2 hv => ?_⟩ (by rfl)
    simp only [Dv] at hv
    subst hv
    rw [Sig.put_put]
    refine Xs.cons (X1.setAttr (dlc w mg mb) (dls w mg mb) (hput _) (Sig.put_same _ _ _) (by rfl) (Ev.name (.val (.bool true)) (by rfl) (by rfl) ⟨_, rfl, by simp, fun v tk3 hv => ?_⟩) (by with_unfolding_all rfl) (by rfl) (by rfl) (by rfl) (by rfl))
    simp only [Dv] at hv
    subst hv
    rw [Sig.put_put]
    refine Xs.cons (X1.setAttr (dlc w mg mb) (dls w mg mb) (hput _) (Sig.put_same _ _ _) (by rfl) (Ev.name (.val (.bool r)) (by rfl) (by rfl) ⟨_, rfl, by simp, fun v tk4 hv => ?_⟩) (by with_unfolding_all rfl) (by rfl) (by rfl) (by rfl) (by rfl))
    simp only [Dv] at hv
    subst hv
    rw [Sig.put_put]
    refine Xs.nil ⟨rfl, fun h' tk' xe hin => ?_⟩
    exact k h' tk' _ _ xe (hin I _ (hput _)).1 (hin dx _ (Sig.put_same _ _ _)).1 (MadeL.of _ _ _ _ _ _ _ _ _ q r)
end Mine

namespace Mine
open PySem PySem.W PySem.Calls PyProof.Rows Builtin.ObjectAttr

set_option maxHeartbeats 4000000 in
theorem make_val (w : World) (mg mb : Str → Option Value) {A : Around} {s : Shared} {vs : List Value} {kw : List (Str × Value)} {q : Int} {t : Tok} {r : Bool} (hA : Rm 3 A) (hg : GX (CC w mg mb) s.heap)
    (hbind : ∀ (I : Addr) (A : Around) (s : Shared), GX (CC w mg mb) s.heap → ∀ fd : FuncData, (∃ o, (CC w mg mb).K.lookup 165 = some o ∧ o.data = .func fd) → wpAny (model (CC w mg mb).prog (CC w mg mb).w) A (bindArgs fd ⟨.ref I :: vs, kw⟩) (fun binds s' => binds = initNames.zip [.ref I, .int q t, .none, .bool true, .bool r] ∧ s' = s) NoE s) :
    wpAny (model (CC w mg mb).prog (CC w mg mb).w) A (call (.ref 189) vs kw) (fun v s' => ∃ I dx es n h' tk, v = .ref I ∧ s' = { s with heap := h', toks := tk } ∧ Ext s.heap h' ∧ s.heap.get? I = none ∧ s.heap.get? dx = none ∧ I ≠ dx ∧ h'.get? I = some (instObj 189 dx) ∧ h'.get? dx = some (dictOf es n) ∧ MadeL es q r) NoE s := by
  have mk : makesIn (CC w mg mb).K 189 = true := by with_unfolding_all rfl
  have hi : findIn (CC w mg mb).K (.ref 189) "__init__" = some (some (.ref 165)) := by with_unfolding_all rfl
  have hf : typeIn (CC w mg mb).K (.ref 165) = some (.type "function") := by with_unfolding_all rfl
  obtain ⟨hh, gn, d, tk, os⟩ := s
  have hz : (hh.push emptyDict).objs.size = hh.objs.size + 1 := Heap.size_push ..
  have x0 : Ext hh ((hh.push emptyDict).push (instObj 189 hh.objs.size)) := (Ext.push _ _).trans (Ext.push _ _)
  refine wpAny_call (make_core (makes_of hg.k mk) (looks_findIn hg.k hi) (fun self => bind_fn hg.k self hf) (.inl rfl) ?_)
  have hc : (Code.builtin "type.__call__" ⟨.ref 189 :: vs, kw⟩).cUnits = 1 := rfl
  have hA2 : Rm 2 (A.under (.builtin "type.__call__" ⟨.ref 189 :: vs, kw⟩)) := ⟨hA.handled, by show A.depth + 1 + 2 < _; have := hA.depth; omega, by show A.units + (Code.builtin "type.__call__" ⟨.ref 189 :: vs, kw⟩).cUnits + 8 * 2 + 40 < _; rw [hc]; have := hA.units; omega⟩
  refine init_fn (s := ⟨(hh.push emptyDict).push (instObj 189 hh.objs.size), gn, d, tk, os⟩) (g := hh) w mg mb (I := hh.objs.size + 1) (dx := hh.objs.size) (q := q) (t := t) (r := r) hA2 hg x0 ?_ ?_ ?_ ?_ ?_ ?_ ?_
  · rw [← hz]; exact Heap.get?_push_size _ rfl
  · exact Heap.get?_push_of_some _ (Heap.get?_push_size _ rfl)
  · exact Heap.get?_none_of_le (Nat.le_succ _)
  · exact Heap.get?_none_of_le (Nat.le_refl _)
  · exact Nat.ne_of_gt (Nat.lt_succ_self _)
  · exact fun fd hfd => hbind _ _ _ (hg.ext x0) fd hfd
  · intro h' tk' es n xe gI gd hm
    exact ⟨rfl, hh.objs.size + 1, hh.objs.size, es, n, h', tk', rfl, rfl, xe, Heap.get?_none_of_le (Nat.le_succ _), Heap.get?_none_of_le (Nat.le_refl _), Nat.ne_of_gt (Nat.lt_succ_self _), gI, gd, hm⟩

/-- the binding of __init__: only restricted=False given -/
theorem bind_free (w : World) (mg mb : Str → Option Value) : ∃ t : Tok, ∀ (I : Addr) (A : Around) (s : Shared), GX (CC w mg mb) s.heap → ∀ fd : FuncData, (∃ o, (CC w mg mb).K.lookup 165 = some o ∧ o.data = .func fd) → wpAny (model (CC w mg mb).prog (CC w mg mb).w) A (bindArgs fd ⟨[.ref I], [("restricted", .bool false)]⟩) (fun binds s' => binds = initNames.zip [.ref I, .int 1 t, .none, .bool true, .bool false] ∧ s' = s) NoE s := by
  obtain ⟨t, n, o', ho', hd'⟩ : ∃ t n o, (CC w mg mb).K.lookup 158 = some o ∧ o.data = .seq #[.int 1 t, .none, .bool true, .bool true] n := ⟨_, _, _, by rfl, by rfl⟩
  refine ⟨t, fun I A s hg fd ⟨o, ho, hd⟩ => ?_⟩
  cases ho
  cases hd
  show wpAny _ _ (seqItems? (.ref 158) >>= _) _ _ s
  refine wpAny_bind (wpAny_seqItems (hg.k _ _ ho') hd' ?_)
  exact wpAny_pure ⟨rfl, rfl⟩

section
variable {X : Cx} {A : Around} {g : Heap} {env : Env} {ρ : Rho} {σ : Sig} {E : Value → Shared → Prop}

theorem evalArgs_kw0 {M : Model} {f : Value} {s : Shared} {keywords : List (Option Str × Sem Value)} {Q : Args → Shared → Prop} (hall : keywords.all (·.1.isSome) = true)
    (h : wpAny M A (evalAll (keywords.map (·.2))) (fun kvs s₂ => Q ⟨[], (keywords.filterMap (·.1)).zip kvs⟩ s₂) E s) : wpAny M A (evalArgs f true [] keywords) Q E s := by
  unfold evalArgs
  show wpAny M A (spliced [] >>= _) Q E s
  refine wpAny_bind (spliced_nil (wpAny_bind (wpAny_pure ?_)))
  refine wpAny_holding ?_
  rw [if_pos hall]
  refine wpAny_bind (wpAny_mono h (fun kvs s₂ h₂ => ?_) fun _ _ x => x)
  exact wpAny_bind (wpAny_pure (wpAny_pure h₂))

theorem Ev.methodO {x name : Str} {px apos pos : Pos} {I : Addr} {P : Heap → Prop} {f : Value} {first : List Value} {args : List Expr} {Q : Res → Prop} (hl : ρ.lookup x = some (.val (.ref I))) (hP : ∀ h, SX X g env ρ σ h → P h) (hm : GetM X I P name f first)
    (H : As X A g env ρ σ pos f first args Q) (ho : varOk env x = true := by rfl) {pl : Sem Bool}
    (he : eval (.Call (.Attribute (.Name x px) name apos) args [] pos) env = (do
      let ov ← eval (.Name x px) env
      standAt apos.atName
      let (f, first) ← holding [ov] (getMethod ov name pl)
      callWith pos f first (backTo pos (starEach args env)) []) := by rfl) : Ev X A g env ρ σ (.Call (.Attribute (.Name x px) name apos) args [] pos) Q := fun s S => by
  have HN : Ev X A g env ρ σ (.Name x px) (fun r => r = .d (.val (.ref I))) := Ev.name _ hl ho rfl
  refine MethodCall_ (Mine.use (HN s S) S fun v r' h1 tk1 S1 x1 y1 e1 => ?_) he
  subst e1
  simp only [VR, V] at y1
  subst y1
  refine hm A _ _ _ _ S1.gl (hP _ S1) fun tk => ?_
  exact wpAny_mono (H { s with heap := h1, toks := tk } S1) (fun v s' p => PE.lift x1 p) fun _ _ f => f
theorem As.plainO {n : Nat} {P : Heap → Prop} {pos : Pos} {f : Value} {first : List Value} {fr : List Res} {e : Expr} {rest : List Expr} {Q : Res → Prop} (hA : Rm n A) (hk : keepIn X.K f = true) (hP : ∀ h, SX X g env ρ σ h → P h) (hf : ∀ h, ARs h fr first)
    (H : Es X A g env ρ σ (e :: rest) (fun rs => FnP X P n f (fr ++ rs) [] Q))
    (he : starEach (e :: rest) env = (false, eval e env) :: starEach rest env := by rfl) (hplain : (backTo pos (starEach rest env)).any (·.1) = false := by rfl) : As X A g env ρ σ pos f first (e :: rest) Q := fun s S => by
  refine callWith_K S.gl.k hk (useS (H pos s S) S fun vs rs h1 tk1 S1 x1 y1 q => ⟨S1.gl.k, ?_⟩) he hplain
  exact wpAny_mono (q.wp A { s with heap := h1, toks := tk1 } (first ++ vs) hA S1.gl (hP _ S1) ((hf _).append y1.ars)) (fun v s' p => PE.lift x1 p) fun _ _ f => f
/-- what the ledger says of a made object -/
def Own (σ : Sig) (I dx : Addr) (q : Int) (r : Bool) : Prop := σ I = some (.obj (instObj 189 dx)) ∧ ∃ es n, σ dx = some (.obj (dictOf es n)) ∧ MadeL es q r
theorem Own.inst {I dx : Addr} {q : Int} {r : Bool} (o : Own σ I dx q r) {h : Heap} (S : SX X g env ρ σ h) : Inst 189 100 h I q r := by
  obtain ⟨h1, es, n, h2, h3, h4, h5, h6⟩ := o
  exact ⟨dx, es, n, (S.own I _ h1).1.1, (S.own dx _ h2).1.1, h3, h4, h5, h6⟩
end

theorem own_two {X : Cx} {g : Heap} {env : Env} {ρ : Rho} {σ : Sig} {h₀ h : Heap} {I dx : Addr} {es : List DictEntry} {n : Nat} (S : SX X g env ρ σ h₀) (x : Ext h₀ h) (nI : h₀.get? I = none) (nd : h₀.get? dx = none) (hne : I ≠ dx) (gI : h.get? I = some (instObj 189 dx)) (gd : h.get? dx = some (dictOf es n)) :
    SX X g env ρ ((σ.put dx (.obj (dictOf es n))).put I (.obj (instObj 189 dx))) h ∧ Stp env σ ((σ.put dx (.obj (dictOf es n))).put I (.obj (instObj 189 dx))) h₀ h := by
  obtain ⟨a1, a2, a3⟩ := S.freshA nI
  obtain ⟨b1, b2, b3⟩ := S.freshA nd
  refine ⟨St.own_put (c := .obj (instObj 189 dx)) (St.own_put (c := .obj (dictOf es n)) (S.ext x) ⟨gd, by simp, by simp⟩ (S.keep.none nd) b1) ⟨gI, by simp, by simp⟩ (S.keep.none nI) a1, fun b o e _ _ _ => x b o e, fun b o e => ⟨o, x b o e⟩, fun b c e => ?_⟩
  by_cases h1 : b = I
  · subst h1; exact .inr nI
  · rw [Sig.put_ne _ _ h1] at e
    by_cases h2 : b = dx
    · subst h2; exact .inr nd
    · rw [Sig.put_ne _ _ h2] at e; exact .inl ⟨c, e⟩

set_option maxHeartbeats 4000000 in
theorem X1.makeFree (w : World) (mg mb : Str → Option Value) {A : Around} {g : Heap} {env : Env} {ρ : Rho} {σ : Sig} {n : Nat} {x : Str} {px p pos spos kp cp : Pos} {kc : Nat} {Q : AF → Rho → Sig → Prop} (hA : Rm (n + 3) A) (hg : mg "DamerauLevenshtein" = some (.ref 189))
    (H : ∀ I dx σ', Own σ' I dx 1 false → (∀ a c, σ a = some c → σ' a = some c) → Q .nxt ((x, .val (.ref I)) :: ρ) σ')
    (hk : env.kindOf "DamerauLevenshtein" = some .globalImplicit := by rfl) (ho : stOk env x = true := by rfl)
    (hs : swapsWith (.Call (.Name "DamerauLevenshtein" p) [] [⟨some "restricted", .Constant (.bool false) kc cp, kp⟩] pos) (some (.Name x px)) spos.line env = pure false := by rfl) :
    X1 (CC w mg mb) A g env ρ σ (.Assign [.Name x px] (.Call (.Name "DamerauLevenshtein" p) [] [⟨some "restricted", .Constant (.bool false) kc cp, kp⟩] pos) spos) Q := fun s S => by
  have H0 : Ev (CC w mg mb) A g env ρ σ (.Name "DamerauLevenshtein" p) (fun r => r = .d (.val (.ref 189))) := Ev.glob _ hg rfl hk (by decide)
  refine wpAny_Assign_Name ?_ hs
  show wpAny _ A (do callWith pos (← eval (.Name "DamerauLevenshtein" p) env) [] (backTo pos (starEach [] env)) (backToKw pos (keywordEach [⟨some "restricted", .Constant (.bool false) kc cp, kp⟩] env))) _ _ s
  refine wpAny_bind (Mine.use (H0 s S) S fun v r h0 tk0 S0 x0 y0 e0 => ?_)
  subst e0
  simp only [VR, V] at y0
  subst y0
  refine callWith_of (P := (CC w mg mb).K.In) rfl (keeps_K (by with_unfolding_all rfl)) (evalArgs_kw0 rfl (kws_cons (wpAny_Constant_bool (kws_nil ⟨S0.gl.k, ?_⟩))))
  obtain ⟨t, hb⟩ := bind_free w mg mb
  refine wpAny_mono (make_val (s := { s with heap := h0, toks := tk0 }) (vs := []) (kw := [("restricted", .bool false)]) w mg mb (q := 1) (t := t) (r := false) (hA.mono (by omega)) S0.gl hb) ?_ fun _ _ f => f
  rintro v s' ⟨I, dx, es, n, h', tk, rfl, rfl, xe, nI, nd, hne, gI, gd, hm⟩
  obtain ⟨S', P'⟩ := own_two (S.ext x0) xe nI nd hne gI gd
  obtain ⟨a1, a2, a3⟩ := S0.freshA nI
  obtain ⟨b1, b2, b3⟩ := S0.freshA nd
  refine storeVar (s := { s with heap := h', toks := tk }) S' (d := .val (.ref I)) (by simp [V]) ho fun h2 tk2 S2 P2 => .mk (h' := h2) (tk := tk2) .nxt _ _ S2 (((Stp.of_ext x0).trans P').trans P2) rfl (H I dx _ ⟨Sig.put_same _ _ _, es, n, by rw [Sig.put_ne _ _ (Ne.symm hne), Sig.put_same], hm⟩ fun a c e => ?_)
  have h1 : a ≠ I := by rintro rfl; rw [a2] at e; cases e
  have h2 : a ≠ dx := by rintro rfl; rw [b2] at e; cases e
  rw [Sig.put_ne _ _ h1, Sig.put_ne _ _ h2]; exact e
end Mine

namespace Mine
open PySem PySem.W PySem.Calls PyProof.Rows

section
variable {X : Cx} {A : Around} {g : Heap} {env : Env} {ρ : Rho} {σ : Sig} {E : Value → Shared → Prop}
/-- a list of one's own handed out -/
theorem X1.retOwn {x : Str} {px pos : Pos} {a : Addr} {xs : List D} {Q : AF → Rho → Sig → Prop} (hl : ρ.lookup x = some (.val (.ref a))) (hσ : σ a = some (.list xs)) (q : Q (.ret (.new xs)) ρ σ) (ho : varOk env x = true := by rfl) : X1 X A g env ρ σ (.Return (some (.Name x px)) pos) Q := fun s S => by
  have HN : Ev X A g env ρ σ (.Name x px) (fun r => r = .d (.val (.ref a))) := Ev.name _ hl ho rfl
  refine wpAny_Return_some (Mine.use (HN s S) S fun v r h1 tk1 S1 x1 y1 e => ?_)
  subst e
  simp only [VR, V] at y1
  subst y1
  obtain ⟨h2, h3, _⟩ := S1.own a _ hσ
  exact .mk (h' := h1) (tk := tk1) (.ret (.new xs)) ρ σ S1 (.of_ext x1) ⟨_, rfl, a, rfl, h3, h2⟩ q
end

def deedsL {α : Type} (row : List α) (room : Nat) (k : Nat) (l : α) : List (List α) := (if row.length < room then [row.take k ++ [l] ++ row.drop k] else []) ++ (if k < row.length then [row.take k ++ [l] ++ row.drop (k + 1)] else [])
def deedsT {α : Type} (row : List α) (k : Nat) : List (List α) := (if k < row.length then [row.take k ++ row.drop (k + 1)] else []) ++
  (match row[k + 1]?, row[k]? with | some b, some a => [row.take k ++ [b, a] ++ row.drop (k + 2)] | _, _ => [])
def deedsK {α : Type} (row letters : List α) (room : Nat) (k : Nat) : List (List α) := letters.flatMap (deedsL row room k) ++ deedsT row k
def deedsF {α : Type} (row letters : List α) (room : Nat) : List (List α) := (List.range (row.length + 1)).flatMap (deedsK row letters room)
def rowD (r : List Int) : D := .tup (r.map .int)
theorem cut_map {α β : Type} (f : α → β) (xs : List α) (lo hi : Option Int) : cut (xs.map f) lo hi = (cut xs lo hi).map f := by
  unfold cut; split <;> simp [List.map_drop, List.map_take]

section
variable {X : Cx} {A : Around} {g : Heap} {env : Env} {ρ : Rho} {σ : Sig} {E : Value → Shared → Prop}
theorem X1.appendRow {x : Str} {px apos pos spos : Pos} {e : Expr} {a : Addr} {ys : List (List Int)} {z : List Int} {Q : AF → Rho → Sig → Prop} (hl : ρ.lookup x = some (.val (.ref a))) (hσ : σ a = some (.list (ys.map rowD))) (hz : ys.length < 2 ^ 20)
    (H : Ev X A g env ρ σ e (fun r => r = .d (rowD z))) (q : Q .nxt ρ (σ.put a (.list ((ys ++ [z]).map rowD)))) (ho : varOk env x = true := by rfl)
    (hbase : attributeBase (.Name x px) "append" env (eval (.Name x px) env) = eval (.Name x px) env := by rfl)
    (he : starEach [e] env = [(false, eval e env)] := by rfl) (hline : (apos.endLine == pos.line) = true := by rfl)
    (hi : interactive env = false := by rfl) (hs : swapsWith (.Call (.Attribute (.Name x px) "append" apos) [e] [] pos) none spos.line env = pure false := by rfl) :
    X1 X A g env ρ σ (.Expr (.Call (.Attribute (.Name x px) "append" apos) [e] [] pos) spos) Q :=
  X1.append (Ev.name _ hl ho ⟨a, rfl, H.mono fun r hr => ⟨rowD z, _, hr, hσ, by simpa using hz, by rw [List.map_append] at q; exact q⟩, _, hσ⟩) hbase he hline hi hs
/-- row[:k] -/
theorem Ev.rowCut {x : Str} {px p pos : Pos} {lower upper : Option Expr} {row : List Int} {lo hi : Option Int} {Q : Res → Prop} (hl : ρ.lookup x = some (rowD row)) (h1 : evO env ρ lower = some lo) (h2 : evO env ρ upper = some hi) (n1 : NonNeg lo) (n2 : NonNeg hi) (hz : row.length < 2 ^ 20) (q : Q (.d (rowD (cut row lo hi)))) (ho : varOk env x = true := by rfl)
    (ht : ∀ o r, letTemporaryGo (.Name x px) o r = pure () := by intro _ _; rfl) : Ev X A g env ρ σ (.Subscript (.Name x px) (.Slice lower upper none p) pos) Q :=
  Ev.sliceT h1 h2 n1 n2 (Ev.name _ hl ho ⟨row.map .int, rfl, by simpa using hz, by rw [cut_map]; exact q⟩) ht
theorem Ev.rowCat {l r : Expr} {pos : Pos} {x y : List Int} {Q : Res → Prop} (H1 : Ev X A g env ρ σ l (fun a => a = .d (rowD x))) (H2 : Ev X A g env ρ σ r (fun b => b = .d (rowD y))) (hz : x.length + y.length < 2 ^ 20) (q : Q (.d (rowD (x ++ y)))) : Ev X A g env ρ σ (.BinOp l .Add r pos) Q :=
  Ev.cat (H1.mono fun a ha => ⟨x.map .int, ha, H2.mono fun b hb => ⟨y.map .int, hb, by simpa using hz, by have := q; rw [rowD, List.map_append] at this; exact this⟩⟩)
end
theorem nn_none : NonNeg none := fun i h => by cases h
theorem nn_nat (n : Nat) : NonNeg (some (n : Int)) := fun i h => by cases h; omega
theorem nn_of {i : Int} (h : 0 ≤ i) : NonNeg (some i) := fun j e => by cases e; exact h
theorem cut_to {α : Type} (xs : List α) (k : Nat) : cut xs none (some (k : Int)) = xs.take k := by simp [cut]
theorem cut_from {α : Type} (xs : List α) (k : Nat) : cut xs (some (k : Int)) none = xs.drop k := by simp [cut]

set_option maxHeartbeats 4000000 in
theorem deeds_fn (w : World) (mg mb : Str → Option Value) (N : Nms (CC w mg mb)) (row letters : List Int) (room : Nat) (hr : row.length < 10) (hlt : letters.length < 10) (hrm : room < 10) :
    FnP (CC w mg mb) (fun _ => True) 4 (.ref 198) [.d (rowD row), .d (rowD letters), .d (.int room)] [] (fun r => r = .new ((deedsF row letters room).map rowD)) := by
  refine FnP.enter ["row", "letters", "room"] (fun h ds => ArgsD h [.d (rowD row), .d (rowD letters), .d (.int room)] ds) true_stay (fun A s vs hg hl ha => bind_pos ?_ (by rfl) hl ha) (by rfl) (by rfl) (by rfl) (by rfl) (by rfl) (by rfl) (by rfl) (by rfl) (by rfl) (by rfl) (by rfl) (by rfl) ?_
  · match vs, hl with
    | [a, b, c], _ => rfl
  · rintro A g L ds hA hg _ ⟨e0, _, rfl, rfl, e1, _, rfl, rfl, e2, _, rfl, rfl, rfl⟩
    dsimp only [envF, callEnvC, newEnv]
    refine Xs.cons (X1.assignN (Ev.list (Es.nil ⟨[], rfl, by simp, [], rfl, fun a ha haL => ?_⟩)) (by rfl) (by rfl))
    let ρ0 : Rho := [("found", .val (.ref a)), ("row", rowD row), ("letters", rowD letters), ("room", .int room)]
    have sq : SeqD g (rowD row) (row.map .int) := .inl rfl
    refine Xs.cons ?_
    refine X1.for (Itr.range1 hA N.range.1 N.range.2 (b := (row.length : Int) + 1) (Ev.bin (Ev.lenS N.len (by rfl) sq (by simp; omega) ⟨(row.length : Int), by simp, Ev.cint ⟨_, _, rfl, rfl, rfl⟩⟩)) ⟨by omega, by omega⟩ ?_ (by rfl) (by rfl)) (by rfl)
    rw [show ((row.length : Int) + 1).toNat = row.length + 1 by omega]
    have hlenL : ∀ k l, (deedsL row room k l).length ≤ 2 := fun k l => by unfold deedsL; split <;> split <;> simp
    have hlenT : ∀ k, (deedsT row k).length ≤ 2 := fun k => by unfold deedsT; split <;> split <;> simp
    refine ⟨fun t ρ' σ' => Kp ρ0 ρ' ∧ ∃ xs, σ' a = some (.list (xs.map rowD)) ∧ xs = (List.range t).flatMap (deedsK row letters room) ∧ xs.length ≤ 22 * t, ⟨show Kp ρ0 ρ0 from Kp.refl_of (by rfl), [], Sig.put_same _ _ _, rfl, by simp⟩, ?_, ?_⟩
    · rintro t d ρ' σ₁ hd ⟨hK, xs, hσ, hxs, hxl⟩
      obtain ⟨ht, rfl⟩ := rg_get hd
      rw [show (0 : Int) + (t : Int) * 1 = (t : Int) by omega]
      let ρ1 : Rho := ("k", .int (t : Nat)) :: ρ0
      refine Xs.weaken ρ1 (hK.cons (by rfl)) ?_
      refine Xs.cons ?_
      refine X1.for (Itr.tup hA (Ev.name (rowD letters) (by rfl) (by rfl) ⟨_, rfl, ?_⟩)) (by rfl)
      refine ⟨fun u ρ' σ' => Kp ρ1 ρ' ∧ ∃ ys, σ' a = some (.list (ys.map rowD)) ∧ ys = xs ++ (letters.take u).flatMap (deedsL row room t) ∧ ys.length ≤ xs.length + 2 * u, ⟨show Kp ρ1 ρ1 from Kp.refl_of (by rfl), xs, hσ, by simp, by omega⟩, ?_, ?_⟩
      · rintro u d ρ'' σ₂ hd2 ⟨hK2, ys, hσ2, hys, hyl⟩
        simp only [List.getElem?_map, Option.map_eq_some_iff] at hd2
        obtain ⟨l, hl, rfl⟩ := hd2
        have hu : u < letters.length := (List.getElem?_eq_some_iff.mp hl).1
        have htake : letters.take (u + 1) = letters.take u ++ [l] := by rw [List.take_add_one, hl]; rfl
        let ρ2 : Rho := ("letter", .int l) :: ρ1
        refine Xs.weaken ρ2 (hK2.cons (by rfl)) ?_
        have kp : Kp ρ1 ρ2 := Kp.skip (show Kp ρ1 ρ1 from Kp.refl_of (by rfl)) (by rfl)
        refine Xs.cons (X1.mono (Q := fun f ρ' σ' => f = .nxt ∧ ρ' = ρ2 ∧ σ' a = some (.list ((ys ++ (if row.length < room then [row.take t ++ [l] ++ row.drop t] else [])).map rowD))) (X1.ite (Tr.cmp (Ev.lenS N.len (by rfl) sq (by simp; omega) (Ev.name (.int room) (by rfl) (by rfl) (CM.intLt ?_))) (by rfl))) ?_)
        · by_cases hc : row.length < room
          · have hc' : decide ((((row.map D.int).length : Nat) : Int) < (room : Int)) = true := by simpa using hc
            rw [hc', if_pos rfl, if_pos hc]
            refine Xs.cons (X1.appendRow (by rfl) hσ2 (by omega) (Ev.rowCat (Ev.rowCat (Ev.rowCut (lo := none) (hi := some (t : Int)) (by rfl) (by rfl) (by rfl) nn_none (nn_nat t) (by omega) (by rw [cut_to])) (Ev.tuple (Es.cons (Ev.name (.int l) (by rfl) (by rfl) (Es.nil ⟨[.int l], rfl, by simp, rfl⟩)) (by rfl))) (by simp; omega) rfl) (Ev.rowCut (lo := some (t : Int)) (hi := none) (by rfl) (by rfl) (by rfl) (nn_nat t) nn_none (by omega) (by rw [cut_from])) (by simp; omega) rfl) (Xs.nil ⟨rfl, rfl, Sig.put_same _ _ _⟩) (by rfl) (by rfl) (by rfl) (by rfl) (by rfl) (by rfl))
          · have hc' : decide ((((row.map D.int).length : Nat) : Int) < (room : Int)) = false := by simpa using hc
            rw [hc', if_neg (by simp), if_neg hc, List.append_nil]
            exact Xs.nil ⟨rfl, rfl, hσ2⟩
        · rintro f ρ3 σ3 ⟨rfl, rfl, hσ3⟩
          generalize hys1 : ys ++ (if row.length < room then [row.take t ++ [l] ++ row.drop t] else []) = ys1 at hσ3
          have hyl1 : ys1.length ≤ ys.length + 1 := by rw [← hys1]; split <;> simp
          refine Xs.cons (X1.ite (Tr.cmp (Ev.name (.int (t : Nat)) (by rfl) (by rfl) (Ev.lenS N.len (by rfl) sq (by simp; omega) (CM.intLt ?_))) (by rfl)))
          have fin : ∀ ys2, ys2 = ys1 ++ (if t < row.length then [row.take t ++ [l] ++ row.drop (t + 1)] else []) → ys2 = xs ++ (letters.take (u + 1)).flatMap (deedsL row room t) ∧ ys2.length ≤ xs.length + 2 * (u + 1) := fun ys2 e => by
            have e2 : ys2 = xs ++ (letters.take (u + 1)).flatMap (deedsL row room t) := by
              rw [e, ← hys1, hys, htake, List.flatMap_append]
              simp [deedsL, List.append_assoc]
            refine ⟨e2, ?_⟩
            rw [e, List.length_append, ← hys1, List.length_append]
            have : ∀ (c : Prop) [Decidable c] (z : List Int), (if c then [z] else []).length ≤ 1 := fun c _ z => by split <;> simp
            have h1 := this (row.length < room) (row.take t ++ [l] ++ row.drop t)
            have h2 := this (t < row.length) (row.take t ++ [l] ++ row.drop (t + 1))
            omega
          by_cases hc : t < row.length
          · have hc' : decide ((t : Int) < (((row.map D.int).length : Nat) : Int)) = true := by simpa using hc
            rw [hc', if_pos rfl]
            obtain ⟨f1, f2⟩ := fin _ rfl
            rw [if_pos hc] at f1 f2
            refine Xs.cons (X1.appendRow (z := row.take t ++ [l] ++ row.drop (t + 1)) (by rfl) hσ3 (by omega) (Ev.rowCat (Ev.rowCat (Ev.rowCut (lo := none) (hi := some (t : Int)) (by rfl) (by rfl) (by rfl) nn_none (nn_nat t) (by omega) (by rw [cut_to])) (Ev.tuple (Es.cons (Ev.name (.int l) (by rfl) (by rfl) (Es.nil ⟨[.int l], rfl, by simp, rfl⟩)) (by rfl))) (by simp; omega) rfl) (Ev.rowCut (lo := some ((t : Int) + 1)) (hi := none) (by rfl) (by rfl) (by rfl) (nn_of (by omega)) nn_none (by omega) (by rw [show ((t : Int) + 1) = ((t + 1 : Nat) : Int) by omega, cut_from])) (by simp; omega) rfl) (Xs.nil (Xs.nil ⟨kp, _, Sig.put_same _ _ _, f1, f2⟩)) (by rfl) (by rfl) (by rfl) (by rfl) (by rfl) (by rfl))
          · have hc' : decide ((t : Int) < (((row.map D.int).length : Nat) : Int)) = false := by simpa using hc
            rw [hc', if_neg (by simp)]
            obtain ⟨f1, f2⟩ := fin _ rfl
            rw [if_neg hc, List.append_nil] at f1 f2
            exact Xs.nil (Xs.nil ⟨kp, _, hσ3, f1, f2⟩)
      · rintro ρ'' σ₂ ⟨hK2, ys, hσ2, hys, hyl⟩
        rw [List.length_map] at hys hyl
        rw [List.take_length] at hys
        refine Xs.weaken ρ1 hK2 ?_
        have kp : Kp ρ0 ρ1 := Kp.skip (show Kp ρ0 ρ0 from Kp.refl_of (by rfl)) (by rfl)
        refine Xs.cons (X1.mono (Q := fun f ρ' σ' => f = .nxt ∧ ρ' = ρ1 ∧ σ' a = some (.list ((ys ++ (if t < row.length then [row.take t ++ row.drop (t + 1)] else [])).map rowD))) (X1.ite (Tr.cmp (Ev.name (.int (t : Nat)) (by rfl) (by rfl) (Ev.lenS N.len (by rfl) sq (by simp; omega) (CM.intLt ?_))) (by rfl))) ?_)
        · by_cases hc : t < row.length
          · have hc' : decide ((t : Int) < (((row.map D.int).length : Nat) : Int)) = true := by simpa using hc
            rw [hc', if_pos rfl, if_pos hc]
            exact Xs.cons (X1.appendRow (by rfl) hσ2 (by omega) (Ev.rowCat (Ev.rowCut (lo := none) (hi := some (t : Int)) (by rfl) (by rfl) (by rfl) nn_none (nn_nat t) (by omega) (by rw [cut_to])) (Ev.rowCut (lo := some ((t : Int) + 1)) (hi := none) (by rfl) (by rfl) (by rfl) (nn_of (by omega)) nn_none (by omega) (by rw [show ((t : Int) + 1) = ((t + 1 : Nat) : Int) by omega, cut_from])) (by simp; omega) rfl) (Xs.nil ⟨rfl, rfl, Sig.put_same _ _ _⟩) (by rfl) (by rfl) (by rfl) (by rfl) (by rfl) (by rfl))
          · have hc' : decide ((t : Int) < (((row.map D.int).length : Nat) : Int)) = false := by simpa using hc
            rw [hc', if_neg (by simp), if_neg hc, List.append_nil]
            exact Xs.nil ⟨rfl, rfl, hσ2⟩
        · rintro f ρ3 σ3 ⟨rfl, rfl, hσ3⟩
          generalize hys1 : ys ++ (if t < row.length then [row.take t ++ row.drop (t + 1)] else []) = ys1 at hσ3
          have hyl1 : ys1.length ≤ ys.length + 1 := by rw [← hys1]; split <;> simp
          have hrange : (List.range (t + 1)).flatMap (deedsK row letters room) = xs ++ deedsK row letters room t := by rw [List.range_succ, List.flatMap_append, ← hxs]; simp
          refine Xs.cons (X1.ite (Tr.cmp (Ev.bin (Ev.name (.int (t : Nat)) (by rfl) (by rfl) ⟨_, rfl, Ev.cint ⟨_, _, rfl, rfl, Ev.lenS N.len (by rfl) sq (by simp; omega) (CM.intLt ?_)⟩⟩)) (by rfl)))
          by_cases hc : t + 1 < row.length
          · have hc' : decide ((t : Int) + 1 < (((row.map D.int).length : Nat) : Int)) = true := by simp; omega
            have hc2 : t < row.length := by omega
            rw [hc', if_pos rfl]
            have ha0 : row[t]? = some row[t] := List.getElem?_eq_getElem hc2
            have hb0 : row[t + 1]? = some row[t + 1] := List.getElem?_eq_getElem hc
            generalize row[t] = va at ha0
            generalize row[t + 1] = vb at hb0
            have e1 : ys1 ++ [row.take t ++ [vb, va] ++ row.drop (t + 2)] = xs ++ deedsK row letters room t := by
              rw [← hys1, hys, deedsK, deedsT, hb0, ha0, if_pos hc2]
              simp [List.append_assoc]
            refine Xs.cons (X1.appendRow (z := row.take t ++ [vb, va] ++ row.drop (t + 2)) (by rfl) hσ3 (by omega) (Ev.rowCat (Ev.rowCat (Ev.rowCut (lo := none) (hi := some (t : Int)) (by rfl) (by rfl) (by rfl) nn_none (nn_nat t) (by omega) (by rw [cut_to])) (Ev.tuple (Es.cons (Ev.itemT (Ev.name (rowD row) (by rfl) (by rfl) ⟨_, rfl, Ev.int (by rfl) ⟨(t : Int) + 1, .int vb, rfl, by omega, by omega, by rw [show ((t : Int) + 1).toNat = t + 1 by omega]; simp [hb0], Es.cons (Ev.itemT (Ev.name (rowD row) (by rfl) (by rfl) ⟨_, rfl, Ev.int (by rfl) ⟨(t : Int), .int va, rfl, by omega, by omega, by simp [ha0], Es.nil ⟨[.int vb, .int va], rfl, by simp, rfl⟩⟩⟩)) (by rfl)⟩⟩)) (by rfl))) (by simp; omega) rfl) (Ev.rowCut (lo := some ((t : Int) + 2)) (hi := none) (by rfl) (by rfl) (by rfl) (nn_of (by omega)) nn_none (by omega) (by rw [show ((t : Int) + 2) = ((t + 2 : Nat) : Int) by omega, cut_from])) (by simp; omega) rfl) (Xs.nil (Xs.nil ⟨kp, _, Sig.put_same _ _ _, by rw [hrange]; exact e1, ?_⟩)) (by rfl) (by rfl) (by rfl) (by rfl) (by rfl) (by rfl))
            simp only [List.length_append, List.length_singleton]
            omega
          · have hc' : decide ((t : Int) + 1 < (((row.map D.int).length : Nat) : Int)) = false := by simp; omega
            rw [hc', if_neg (by simp)]
            have hb0 : row[t + 1]? = none := List.getElem?_eq_none (by omega)
            have e1 : ys1 = xs ++ deedsK row letters room t := by
              rw [← hys1, hys, deedsK, deedsT, hb0]
              simp [List.append_assoc]
            exact Xs.nil (Xs.nil ⟨kp, _, hσ3, by rw [hrange]; exact e1, by omega⟩)
    · rintro ρ' σ₁ ⟨hK, xs, hσ, hxs, hxl⟩
      rw [rg_length] at hxs
      refine Xs.weaken ρ0 hK ?_
      refine Xs.cons (X1.retOwn (by rfl) hσ ?_ (by rfl))
      show _ = _
      rw [hxs]
      rfl
end Mine

namespace Mine
open PySem PySem.W PySem.Calls PyProof.Rows

abbrev Far (α : Type) := List (List α × Nat)
section
variable {α : Type} [DecidableEq α]
def lk (far : Far α) (r : List α) : Option Nat := (far.find? fun p => decide (p.1 = r)).map (·.2)
def visitF (r : List α) (st : Far α × List (List α)) (o : List α) : Far α × List (List α) := if (lk st.1 o).isSome then st else (st.1 ++ [(o, (lk st.1 r).getD 0 + 1)], st.2 ++ [o])
def rowStep (letters : List α) (room : Nat) (st : Far α × List (List α)) (r : List α) : Far α × List (List α) := (deedsF r letters room).foldl (visitF r) st
def stepF (letters : List α) (room : Nat) (st : Far α × List (List α)) : Far α × List (List α) := st.2.foldl (rowStep letters room) (st.1, [])
def bfs (letters : List α) (room : Nat) (first : List α) : Nat → Far α × List (List α)
  | 0 => ([(first, 0)], [first])
  | n + 1 => stepF letters room (bfs letters room first n)
theorem lk_append (far : Far α) (o k : List α) (d : Nat) : lk (far ++ [(o, d)]) k = if (lk far k).isSome then lk far k else if o = k then some d else none := by
  unfold lk
  rw [List.find?_append]
  cases h : far.find? fun p => decide (p.1 = k) with
  | some p => simp
  | none =>
    by_cases e : o = k
    · simp [e]
    · simp [e]
theorem lk_keep {far : Far α} {o k : List α} {d : Nat} (h : (lk far k).isSome = true) : lk (far ++ [(o, d)]) k = lk far k := by rw [lk_append, if_pos h]
def GoodS (room : Nat) (lev : List (List α)) (st : Far α × List (List α)) : Prop := (∀ r ∈ lev, (lk st.1 r).isSome = true) ∧ (∀ r ∈ st.2, (lk st.1 r).isSome = true) ∧ (∀ r ∈ st.2, r.length ≤ room) ∧ st.2.length ≤ st.1.length
theorem visit_good {room : Nat} {lev : List (List α)} {st : Far α × List (List α)} {r o : List α} (h : GoodS room lev st) (ho : o.length ≤ room) : GoodS room lev (visitF r st o) := by
  obtain ⟨h1, h2, h3, h4⟩ := h
  unfold visitF
  split
  · exact ⟨h1, h2, h3, h4⟩
  · rename_i hn
    have key : ∀ k, (lk st.1 k).isSome = true → (lk (st.1 ++ [(o, (lk st.1 r).getD 0 + 1)]) k).isSome = true := fun k hk => by rw [lk_keep hk]; exact hk
    refine ⟨fun k hk => key k (h1 k hk), fun k hk => ?_, fun k hk => ?_, by simpa using h4⟩
    · rcases List.mem_append.mp hk with hk | hk
      · exact key k (h2 k hk)
      · rw [List.mem_singleton.mp hk, lk_append, if_neg hn, if_pos rfl]; rfl
    · rcases List.mem_append.mp hk with hk | hk
      · exact h3 k hk
      · rw [List.mem_singleton.mp hk]; exact ho
theorem visit_mono (r : List α) (st : Far α × List (List α)) (o : List α) : st.1.length ≤ (visitF r st o).1.length := by unfold visitF; split <;> simp
theorem foldl_mono {β : Type} (f : Far α × List (List α) → β → Far α × List (List α)) (h : ∀ s b, s.1.length ≤ (f s b).1.length) : ∀ (l : List β) s, s.1.length ≤ (l.foldl f s).1.length
  | [], s => Nat.le_refl _
  | b :: l, s => Nat.le_trans (h s b) (foldl_mono f h l _)
theorem prefix_mono {β : Type} (f : Far α × List (List α) → β → Far α × List (List α)) (h : ∀ s b, s.1.length ≤ (f s b).1.length) (l : List β) (i : Nat) (s) : ((l.take i).foldl f s).1.length ≤ (l.foldl f s).1.length := by
  have := foldl_mono f h (l.drop i) ((l.take i).foldl f s)
  rw [← List.foldl_append, List.take_append_drop] at this
  exact this
theorem rowStep_mono (letters : List α) (room : Nat) (s : Far α × List (List α)) (r : List α) : s.1.length ≤ (rowStep letters room s r).1.length := foldl_mono _ (fun s b => visit_mono r s b) _ _
theorem deeds_len {row letters : List α} {room : Nat} (hr : row.length ≤ room) : ∀ o ∈ deedsF row letters room, o.length ≤ room := by
  intro o ho
  simp only [deedsF, deedsK, deedsL, deedsT, List.mem_flatMap, List.mem_append, List.mem_range] at ho
  obtain ⟨k, hk, h | h⟩ := ho
  · obtain ⟨l, _, h | h⟩ := h
    · split at h
      · rw [List.mem_singleton.mp h]; simp; omega
      · cases h
    · split at h
      · rw [List.mem_singleton.mp h]; simp; omega
      · cases h
  · rcases h with h | h
    · split at h
      · rw [List.mem_singleton.mp h]; simp; omega
      · cases h
    · split at h
      · rename_i b a hb ha
        have := (List.getElem?_eq_some_iff.mp hb).1
        rw [List.mem_singleton.mp h]; simp; omega
      · cases h
end

/-- the dict and its list of pairs -/
def Frel (f : List Int → Option D) (far : Far Int) : Prop := ∀ k, f k = (lk far k).map fun d => .int (d : Int)
theorem Frel.put {f : List Int → Option D} {far : Far Int} (h : Frel f far) {o : List Int} {d : Nat} (hn : lk far o = none) : Frel (Mine.setT f o (.int d)) (far ++ [(o, d)]) := fun k => by
  rw [lk_append]
  unfold Mine.setT
  by_cases e : k = o
  · subst e; rw [if_pos rfl, hn]; simp
  · rw [if_neg e, h k]
    cases hk : lk far k with
    | some v => simp
    | none => simp [Ne.symm e]

def unD : D → List Int
  | .tup xs => xs.map fun d => match d with | .int i => i | _ => 0
  | _ => []
theorem unD_row (r : List Int) : unD (rowD r) = r := by
  simp only [unD, rowD, List.map_map]
  exact List.map_id' _

set_option maxHeartbeats 4000000 in
theorem runs_fn (w : World) (mg mb : Str → Option Value) (N : Nms (CC w mg mb)) (hdeeds : mg "_law_deeds" = some (.ref 198)) (first letters : List Int) (others : List (List Int)) (room M : Nat) (dist : List Int → Nat)
    (hf : first.length ≤ room) (hlt : letters.length < 10) (hrm : room < 10) (hot : others.length < 100)
    (hsz : ∀ t, t ≤ M → (bfs letters room first t).1.length < 1000) (hM : ∀ r ∈ others, (lk (bfs letters room first M).1 r).isSome = true) (hval : ∀ t, t ≤ M → ∀ r ∈ others, ∀ d, lk (bfs letters room first t).1 r = some d → d = dist r) :
    FnP (CC w mg mb) (fun _ => True) 6 (.ref 203) [.d (rowD first), .new (others.map rowD), .d (rowD letters), .d (.int room)] [] (fun r => r = .new ((others.map fun r => (dist r : Int)).map .int)) := by
  refine FnP.enter ["first", "others", "letters", "room"] (fun h ds => ArgsD h [.d (rowD first), .new (others.map rowD), .d (rowD letters), .d (.int room)] ds) true_stay (fun A s vs hg hl ha => bind_pos ?_ (by rfl) hl ha) (by rfl) (by rfl) (by rfl) (by rfl) (by rfl) (by rfl) (by rfl) (by rfl) (by rfl) (by rfl) (by rfl) (by rfl) ?_
  · match vs, hl with
    | [a, b, c, d], _ => rfl
  · rintro A g L ds hA hg _ ⟨e0, _, rfl, rfl, e1, _, rfl, ⟨O, rfl, lO⟩, e2, _, rfl, rfl, e3, _, rfl, rfl, rfl⟩
    dsimp only [envF, callEnvC, newEnv]
    refine Xs.cons (X1.oneT hA (Ev.name (rowD first) (by rfl) (by rfl) ⟨first, rfl, Ev.cint ⟨_, rfl, fun F hF hFL => ?_⟩⟩) (by rfl) (by rfl))
    refine Xs.cons (X1.assignN (Ev.list (Es.cons (Ev.name (rowD first) (by rfl) (by rfl) (Es.nil ⟨[rowD first], rfl, by simp, _, rfl, fun Lv hLv hLvL => ?_⟩)) (by rfl))) (by rfl) (by rfl))
    have hLF : Lv ≠ F := by rintro rfl; rw [Sig.put_same] at hLv; cases hLv
    let ρ0 : Rho := [("far", .val (.ref F)), ("first", rowD first), ("others", .val (.ref O)), ("letters", rowD letters), ("room", .int room)]
    refine Xs.cons ?_
    refine X1.while (fun n ρ' σ' => ∃ t, n = M - t ∧ t ≤ M ∧ Kp ρ0 ρ' ∧ (∃ Nn f, σ' F = some (.dT Nn f) ∧ Nn ≤ (bfs letters room first t).1.length ∧ Frel f (bfs letters room first t).1) ∧
      (∃ Lv, Lv ≠ F ∧ List.lookup ("level" : Str) ρ' = some (.val (.ref Lv)) ∧ σ' Lv = some (.list ((bfs letters room first t).2.map rowD))) ∧
      (∀ r ∈ (bfs letters room first t).2, (lk (bfs letters room first t).1 r).isSome = true) ∧ ∀ r ∈ (bfs letters room first t).2, r.length ≤ room) M ?_ ?_
    · refine ⟨0, rfl, Nat.zero_le _, Kp.skip (show Kp ρ0 ρ0 from Kp.refl_of (by rfl)) (by rfl), ⟨1, _, by rw [Sig.put_ne _ _ (Ne.symm hLF), Sig.put_same], by simp [bfs], fun k => ?_⟩, ⟨Lv, hLF, by rfl, by rw [Sig.put_same]; rfl⟩, fun r hr => ?_, fun r hr => ?_⟩
      · by_cases e : k = first
        · subst e; simp [bfs, lk, Mine.setT]
        · have e' : first ≠ k := Ne.symm e
          simp [bfs, lk, Mine.setT, e, e']
      · simp only [bfs, List.mem_singleton] at hr; subst hr; simp [bfs, lk]
      · simp only [bfs, List.mem_singleton] at hr; subst hr; exact hf
    · rintro n ρ' σ' ⟨t, rfl, ht, hK, ⟨Nn, f, hσF, hN, hfr⟩, ⟨Lv', hLvF, hlv, hσL⟩, hlev, hlen⟩
      have hK1 : Kp (("level", .val (.ref Lv')) :: ρ0) ρ' := fun p hp => by
        rcases List.mem_cons.mp hp with rfl | hp
        · exact hlv
        · exact hK p hp
      have hN20 : Nn < 1000 := Nat.lt_of_le_of_lt hN (hsz t ht)
      generalize hb : bfs letters room first t = st at hN hfr hσL hlev hlen
      refine fun s0 S0 => (?_ : Tr _ _ _ _ (("level", .val (.ref Lv')) :: ρ0) _ _ _) s0 (S0.weaken fun x d e => hK1 (x, d) (mem_of_lookup e))
      refine Tr.cmp (Ev.comp (ρc := [("far", .val (.ref F))]) hA ⟨by rfl, by rfl, by decide, ?_, by rfl, ?_, ?_, by rfl, fun C => rfl⟩ (Itr.base hA (by rfl) lO ?_ (by rfl))) (by rfl)
      · intro p hp
        simp only [List.mem_cons, List.not_mem_nil, or_false] at hp
        rcases hp with rfl; rfl
      · intro p hp
        simp only [List.mem_cons, List.not_mem_nil, or_false] at hp
        rcases hp with rfl; exact ⟨rfl, .inl rfl, fun C => rfl⟩
      · intro p hp C
        simp only [List.mem_cons, List.not_mem_nil, or_false] at hp
        rcases hp with rfl; exact fun h => by cases h
      · refine ⟨fun d => !(lk st.1 (unD d)).isSome, fun d => .d d, .inl fun d _ => ⟨d, rfl⟩, by simp; omega, ?_, ?_, ?_⟩
        · intro C d hd
          obtain ⟨r, _, rfl⟩ := List.mem_map.mp hd
          dsimp only [compE]
          refine Tr.cmp (Ev.name (rowD r) (by rfl) (by rfl) (Ev.name (.val (.ref F)) (by rfl) (by rfl) (CM.notInT hA hσF ?_))) (by rfl)
          rw [unD_row, hfr r]
          cases lk st.1 r <;> rfl
        · intro C d hd _
          obtain ⟨r, _, rfl⟩ := List.mem_map.mp hd
          dsimp only [compE]
          exact Ev.name (rowD r) (by rfl) (by rfl) rfl
        · refine ⟨(others.filter fun r => !(lk st.1 r).isSome).map rowD, ?_, Ev.list (Es.nil ⟨[], rfl, by simp, CM.listNe hA (tupIK _) (xs := others.filter fun r => !(lk st.1 r).isSome) (ys := []) (.inr rfl) (.inr rfl) ?_⟩)⟩
          · rw [List.filter_map]
            congr 2
            apply List.filter_congr
            intro r _
            simp [unD_row]
          · by_cases hem : (others.filter fun r => !(lk st.1 r).isSome) = []
            · rw [decide_eq_true hem, if_neg (by simp)]
              dsimp only
              have hall : ∀ r ∈ others, (lk st.1 r).isSome = true := fun r hr => by
                have := List.filter_eq_nil_iff.mp hem r hr
                cases h : lk st.1 r with
                | some v => rfl
                | none => rw [h] at this; exact absurd rfl this
              refine Xs.weaken ρ0 (fun p hp => hK1 p (List.mem_cons_of_mem _ hp)) ?_
              refine Xs.cons (X1.ret (Ev.comp (ρc := [("far", .val (.ref F))]) hA ⟨by rfl, by rfl, by decide, ?_, by rfl, ?_, ?_, by rfl, fun C => rfl⟩ (Itr.base hA (by rfl) lO ?_ (by rfl))))
              · intro p hp
                simp only [List.mem_cons, List.not_mem_nil, or_false] at hp
                rcases hp with rfl; rfl
              · intro p hp
                simp only [List.mem_cons, List.not_mem_nil, or_false] at hp
                rcases hp with rfl; exact ⟨rfl, .inl rfl, fun C => rfl⟩
              · intro p hp C
                simp only [List.mem_cons, List.not_mem_nil, or_false] at hp
                rcases hp with rfl; exact fun h => by cases h
              · refine ⟨fun _ => true, fun d => .d (.int (dist (unD d) : Nat)), .inl fun d _ => ⟨_, rfl⟩, by simp; omega, fun _ _ _ => rfl, ?_, ?_⟩
                · intro C d hd _
                  obtain ⟨r, hr, rfl⟩ := List.mem_map.mp hd
                  dsimp only [compE]
                  obtain ⟨v, hv⟩ := Option.isSome_iff_exists.mp (hall r hr)
                  have hvd : v = dist r := hval t ht r hr v (by rw [hb]; exact hv)
                  exact Ev.itemD hA (Ev.name (.val (.ref F)) (by rfl) (by rfl) ⟨F, Nn, f, rfl, hσF, Ev.name (rowD r) (by rfl) (by rfl) ⟨r, .int (v : Int), rfl, by rw [hfr r, hv]; rfl, by rw [unD_row, hvd]⟩⟩)
                · refine ⟨(others.map fun r => (dist r : Int)).map .int, ?_, rfl⟩
                  rw [List.filter_eq_self.mpr (by simp), List.map_map, List.map_map, List.map_map]
                  apply List.map_congr_left
                  intro r _
                  simp [unD_row]
            · rw [decide_eq_false hem, if_pos (by simp)]
              have htM : t < M := by
                apply Classical.byContradiction
                intro hn
                have : t = M := by omega
                subst this
                apply hem
                rw [List.filter_eq_nil_iff]
                intro r hr
                have := hM r hr
                rw [hb] at this
                simp [this]
              refine Xs.weaken (("level", .val (.ref Lv')) :: ρ0) hK1 ?_
              refine Xs.cons (X1.assignN (Ev.list (Es.nil ⟨[], rfl, by simp, [], rfl, fun Fr hFr hFrL => ?_⟩)) (by rfl) (by rfl))
              have hFrF : Fr ≠ F := by rintro rfl; rw [hσF] at hFr; cases hFr
              have hFrL' : Fr ≠ Lv' := by rintro rfl; rw [hσL] at hFr; cases hFr
              let ρ1 : Rho := ("fresh", .val (.ref Fr)) :: ρ0
              refine Xs.cons ?_
              refine X1.forOwn hA (a := Lv') (ds := st.2.map rowD) (by rfl) (by rw [Sig.put_ne _ _ (Ne.symm hFrL')]; exact hσL) ?_ (by rfl) (by rfl)
              have hnext : bfs letters room first (t + 1) = stepF letters room st := by rw [← hb]; rfl
              have hbig : (stepF letters room st).1.length < 1000 := by rw [← hnext]; exact hsz (t + 1) (by omega)
              refine ⟨fun i ρ' σ' => Kp ρ1 ρ' ∧ (∃ Nn f, σ' F = some (.dT Nn f) ∧ Nn ≤ ((st.2.take i).foldl (rowStep letters room) (st.1, [])).1.length ∧ Frel f ((st.2.take i).foldl (rowStep letters room) (st.1, [])).1) ∧
                σ' Fr = some (.list (((st.2.take i).foldl (rowStep letters room) (st.1, [])).2.map rowD)) ∧ GoodS room st.2 ((st.2.take i).foldl (rowStep letters room) (st.1, [])), ⟨?_, ⟨Nn, f, ?_, hN, hfr⟩, ?_, ?_⟩, ?_, ?_⟩
              · exact Kp.cons (Kp.skip (show Kp ρ0 ρ0 from Kp.refl_of (by rfl)) (by rfl)) (by rfl)
              · show ((σ'.put Fr _).del Lv') F = _
                unfold Sig.del
                rw [if_neg (Ne.symm hLvF), Sig.put_ne _ _ (Ne.symm hFrF)]; exact hσF
              · show ((σ'.put Fr _).del Lv') Fr = _
                unfold Sig.del
                rw [if_neg hFrL', Sig.put_same]; rfl
              · exact ⟨hlev, by simp, by simp, by simp⟩
              · clear hσF hN hfr hN20
                rintro i d ρ2 σ2 hd ⟨hK2, ⟨N2, f2, hσF, hN2, hfr⟩, hσFr, hG⟩
                simp only [List.getElem?_map, Option.map_eq_some_iff] at hd
                obtain ⟨r, hr, rfl⟩ := hd
                have hrin : r ∈ st.2 := List.mem_of_getElem? hr
                have hrl : r.length ≤ room := hlen r hrin
                have htake : (st.2.take (i + 1)).foldl (rowStep letters room) (st.1, []) = rowStep letters room ((st.2.take i).foldl (rowStep letters room) (st.1, [])) r := by
                  rw [List.take_add_one, hr]; simp
                have hpre := prefix_mono (rowStep letters room) (rowStep_mono letters room) st.2 (i + 1) (st.1, [])
                rw [htake] at hpre
                generalize hsi : (st.2.take i).foldl (rowStep letters room) (st.1, []) = si at hN2 hfr hσFr hG htake hpre
                let ρ3 : Rho := ("row", rowD r) :: ρ1
                refine Xs.weaken ρ3 (hK2.cons (by rfl)) ?_
                refine Xs.cons ?_
                refine X1.for (Itr.new hA ?_) (by rfl)
                refine Ev.callF (n := 4) (hA.mono (by omega)) hdeeds (by rfl) (by rfl) ?_ (by rfl) (by rfl)
                refine Es.cons (Ev.name (rowD r) (by rfl) (by rfl) (Es.cons (Ev.name (rowD letters) (by rfl) (by rfl) (Es.cons (Ev.name (.int room) (by rfl) (by rfl) (Es.nil ?_))))))
                refine (FnP.fn (deeds_fn w mg mb N r letters room (by omega) hlt hrm)).mono fun r' hr' => ⟨_, hr', ?_⟩
                have hdl : (rowStep letters room si r) = (deedsF r letters room).foldl (visitF r) si := rfl
                refine ⟨fun j ρ' σ' => Kp ρ3 ρ' ∧ (∃ Nn f, σ' F = some (.dT Nn f) ∧ Nn ≤ (((deedsF r letters room).take j).foldl (visitF r) si).1.length ∧ Frel f (((deedsF r letters room).take j).foldl (visitF r) si).1) ∧
                  σ' Fr = some (.list ((((deedsF r letters room).take j).foldl (visitF r) si).2.map rowD)) ∧ GoodS room st.2 (((deedsF r letters room).take j).foldl (visitF r) si), ⟨show Kp ρ3 ρ3 from Kp.refl_of (by rfl), ⟨N2, f2, hσF, hN2, hfr⟩, hσFr, hG⟩, ?_, ?_⟩
                · clear hσF hN2 hfr hσFr hG
                  rintro j d ρ4 σ4 hd4 ⟨hK4, ⟨N4, f4, hσF, hN4, hfr⟩, hσFr, hG⟩
                  simp only [List.getElem?_map, Option.map_eq_some_iff] at hd4
                  obtain ⟨o, ho, rfl⟩ := hd4
                  have hol : o.length ≤ room := deeds_len hrl o (List.mem_of_getElem? ho)
                  have htk : ((deedsF r letters room).take (j + 1)).foldl (visitF r) si = visitF r (((deedsF r letters room).take j).foldl (visitF r) si) o := by
                    rw [List.take_add_one, ho]; simp
                  have hpj := prefix_mono (visitF r) (visit_mono r) (deedsF r letters room) j si
                  generalize hsj : ((deedsF r letters room).take j).foldl (visitF r) si = sj at hN4 hfr hσFr hG htk hpj
                  have hsmall : sj.1.length < 1000 := by
                    rw [← hdl] at hpj
                    have : (st.2.foldl (rowStep letters room) (st.1, [])).1.length < 1000 := hbig
                    omega
                  have hG' := visit_good (r := r) hG hol
                  refine Xs.weaken (("other", rowD o) :: ρ3) (hK4.cons (by rfl)) ?_
                  refine Xs.cons (X1.ite (Tr.cmp (Ev.name (rowD o) (by rfl) (by rfl) (Ev.name (.val (.ref F)) (by rfl) (by rfl) (CM.notInT hA hσF ?_))) (by rfl)))
                  rw [hfr o]
                  have kp : Kp ρ3 (("other", rowD o) :: ρ3) := Kp.skip (show Kp ρ3 ρ3 from Kp.refl_of (by rfl)) (by rfl)
                  cases hlo : lk sj.1 o with
                  | some v =>
                    rw [if_neg (by simp)]
                    have hv : visitF r sj o = sj := by unfold visitF; rw [if_pos (by rw [hlo]; rfl)]
                    rw [hv] at htk
                    exact Xs.nil (Xs.nil ⟨kp, ⟨N4, f4, hσF, by rw [htk]; exact hN4, by rw [htk]; exact hfr⟩, by rw [htk]; exact hσFr, by rw [htk]; exact hG⟩)
                  | none =>
                    rw [if_pos (by simp)]
                    obtain ⟨v, hv⟩ := Option.isSome_iff_exists.mp (hG.1 r hrin)
                    have hvis : visitF r sj o = (sj.1 ++ [(o, v + 1)], sj.2 ++ [o]) := by unfold visitF; rw [if_neg (by rw [hlo]; simp), hv]; rfl
                    rw [hvis] at htk hG'
                    refine Xs.cons (X1.setT hA (Ev.bin (Ev.itemD hA (Ev.name (.val (.ref F)) (by rfl) (by rfl) ⟨F, N4, f4, rfl, hσF, Ev.name (rowD r) (by rfl) (by rfl) ⟨r, .int (v : Int), rfl, by rw [hfr r, hv]; rfl, _, rfl, Ev.cint ⟨_, _, rfl, rfl, _, rfl, Ev.name (.val (.ref F)) (by rfl) (by rfl) ⟨F, N4, f4, rfl, hσF, by omega, Ev.name (rowD o) (by rfl) (by rfl) ⟨o, rfl, ?_⟩⟩⟩⟩⟩))) (by rfl))
                    refine Xs.cons (X1.appendRow (by rfl) (a := Fr) (ys := sj.2) (by rw [Sig.put_ne _ _ hFrF]; exact hσFr) (by have := hG.2.2.2; omega) (Ev.name (rowD o) (by rfl) (by rfl) rfl) (Xs.nil (Xs.nil ⟨kp, ⟨N4 + 1, _, by rw [Sig.put_ne _ _ (Ne.symm hFrF), Sig.put_same], ?_, ?_⟩, ?_, ?_⟩)) (by rfl) (by rfl) (by rfl) (by rfl) (by rfl) (by rfl))
                    · rw [htk]; simp; exact hN4
                    · rw [htk]; exact hfr.put (d := v + 1) hlo
                    · rw [htk, Sig.put_same]
                    · rw [htk]; exact hG'
                · clear hσF hN2 hfr hσFr hG
                  rintro ρ4 σ4 ⟨hK4, ⟨N4, f4, hσF, hN4, hfr⟩, hσFr, hG⟩
                  rw [List.length_map, List.take_length, ← hdl, ← htake] at hN4 hfr hσFr hG
                  exact Xs.nil ⟨hK4.of, ⟨N4, f4, hσF, hN4, hfr⟩, hσFr, hG⟩
              · clear hσF hN hfr hN20
                rintro ρ2 σ2 ⟨hK2, ⟨N2, f2, hσF, hN2, hfr⟩, hσFr, hG⟩
                rw [List.length_map, List.take_length] at hN2 hfr hσFr hG
                refine Xs.weaken ρ1 hK2 ?_
                refine Xs.cons (X1.assignD (.val (.ref Fr)) (Ev.name _ (by rfl) (by rfl) rfl) (Xs.nil ?_))
                refine ⟨M - (t + 1), by omega, t + 1, rfl, htM, Kp.skip (Kp.skip (show Kp ρ0 ρ0 from Kp.refl_of (by rfl)) (by rfl)) (by rfl), ⟨N2, f2, hσF, by rw [hnext]; exact hN2, by rw [hnext]; exact hfr⟩, ⟨Fr, hFrF, by rfl, by rw [hnext]; exact hσFr⟩, by rw [hnext]; exact hG.2.1, by rw [hnext]; exact hG.2.2.1⟩
end Mine

namespace Mine
open PySem PySem.W PySem.Calls PyProof.Rows

section
variable {X : Cx} {A : Around} {g : Heap} {env : Env} {ρ : Rho} {σ : Sig} {E : Value → Shared → Prop}
theorem Ev.modC {l : Expr} {b : Int} {k : Nat} {cp pos : Pos} {Q : Res → Prop} (hb : b ≠ 0) (H : Ev X A g env ρ σ l (fun r => ∃ i, r = .d (.int i) ∧ Q (.d (.int (i.fmod b))))) : Ev X A g env ρ σ (.BinOp l .Mod (.Constant (.int b) k cp) pos) Q := fun s S => by
  refine wpAny_BinOp (Mine.use (H s S) S fun v a h1 tk1 S1 x1 y1 ⟨i, e, q⟩ => ?_)
  subst e
  simp only [VR, V] at y1
  obtain ⟨t, rfl⟩ := y1
  refine wpAny_Constant_int (mod_int' hb (.mk (.d (.int _)) x1 (by simp [VR, V]) q))
theorem Ev.divC {l : Expr} {b : Int} {k : Nat} {cp pos : Pos} {Q : Res → Prop} (hb : b ≠ 0) (hs : b.natAbs < 1073741824) (H : Ev X A g env ρ σ l (fun r => ∃ i, r = .d (.int i) ∧ Q (.d (.int (i.fdiv b))))) : Ev X A g env ρ σ (.BinOp l .FloorDiv (.Constant (.int b) k cp) pos) Q := fun s S => by
  refine wpAny_BinOp (Mine.use (H s S) S fun v a h1 tk1 S1 x1 y1 ⟨i, e, q⟩ => ?_)
  subst e
  simp only [VR, V] at y1
  obtain ⟨t, rfl⟩ := y1
  refine wpAny_Constant_int (floordiv_int hb (.mk (.d (.int _)) x1 (by simp [VR, V]) q) (.inl (PyProof.noPylong_small hs)))
/-- x[y] of a list of our own -/
theorem Ev.ownAt {x y : Str} {px py pos : Pos} {a : Addr} {xs : List D} {i : Int} {d : D} {Q : Res → Prop} (hx : ρ.lookup x = some (.val (.ref a))) (hσ : σ a = some (.list xs)) (hy : ρ.lookup y = some (.int i)) (hd : xs[i.toNat]? = some d) (h0 : 0 ≤ i) (hi : i < 2 ^ 62) (q : Q (.d d))
    (ho : varOk env x = true) (ho2 : varOk env y = true) : Ev X A g env ρ σ (.Subscript (.Name x px) (.Name y py) pos) Q :=
  Ev.itemL (Ev.nameL a xs hx ho (.inl hσ) ⟨_, .inl rfl, Ev.name (.int i) hy ho2 ⟨i, d, rfl, h0, hi, hd, q⟩⟩)
end
theorem fmod3 (i : Int) : ∃ n : Nat, n < 3 ∧ i.fmod 3 = n := by
  have h1 : i.fmod 3 = i % 3 := Int.fmod_eq_emod_of_nonneg i (by decide)
  have h2 := Int.emod_nonneg i (show (3 : Int) ≠ 0 by decide)
  have h3 := Int.emod_lt_of_pos i (show (0 : Int) < 3 by decide)
  exact ⟨(i % 3).toNat, by omega, by rw [h1]; omega⟩

def OkR (r : List Nat) : Prop := r.length ≤ 3 ∧ ∀ i ∈ r, i < 3
/-- what is asked of the plain law -/
structure MathOK (e : Nat → Int) (a b c : List Nat) : Prop where
  ok : ∃ (M : Nat) (dist : List Int → Nat) (G : List Int → List Int → Int → Int → Int), (∀ x y : List Int, URec x y (G x y)) ∧
    (∀ t, t ≤ M → (bfs [e 0, e 1, e 2] (max (max a.length b.length) c.length) (a.map e) t).1.length < 1000) ∧
    (∀ r ∈ [b.map e, c.map e], (lk (bfs [e 0, e 1, e 2] (max (max a.length b.length) c.length) (a.map e) M).1 r).isSome = true) ∧
    (∀ t, t ≤ M → ∀ r ∈ [b.map e, c.map e], ∀ d, lk (bfs [e 0, e 1, e 2] (max (max a.length b.length) c.length) (a.map e) t).1 r = some d → d = dist r) ∧
    freeD (G (a.map e) (b.map e)) (a.map e) (b.map e) = dist (b.map e) ∧ freeD (G (a.map e) (c.map e)) (a.map e) (c.map e) = dist (c.map e) ∧
    freeD (G (b.map e) (a.map e)) (b.map e) (a.map e) = dist (b.map e) ∧ freeD (G (c.map e) (a.map e)) (c.map e) (a.map e) = dist (c.map e)

structure Tops (mg : Str → Option Value) : Prop where
  deeds : mg "_law_deeds" = some (.ref 198)
  runs : mg "_law_runs" = some (.ref 203)
  cls : mg "DamerauLevenshtein" = some (.ref 189)

set_option maxHeartbeats 4000000 in
theorem law_body (w : World) (mg mb : Str → Option Value) (N : Nms (CC w mg mb)) (TT : Tops mg) (fd : FuncData) (body : List Stmt) (hfd : ∃ o, (CC w mg mb).K.lookup 210 = some o ∧ o.data = .func fd) (hbody : fd.body = .stmts body) (L fa : Addr) (cd : Value)
    {A : Around} {g : Heap} (hA : Rm 20 A) (l : Addr) (ns : List Int) (hl : LI g l (ns.map .int)) (hns : ns.length < 100)
    (math : ∀ (first : Int) (a b c : List Nat), OkR a → OkR b → OkR c → MathOK (fun i => first + i) a b c) :
    Xs (CC w mg mb) A g (envOf fd.name fd.scope L fa cd) [("script", .val (.ref l))] (fun _ => none) body (RetQ (fun r => r = .d (.val (.bool true)))) := by
  obtain ⟨o, ho, hd⟩ := hfd
  cases ho
  cases hd
  cases hbody
  dsimp only [envOf]
  let first : Int := if ns.isEmpty then 0 else ns.headD 0
  refine Xs.cons (X1.assignD (.int first) (Ev.ife (Tr.plain (Ev.nameL l _ (by rfl) (by rfl) (.inr hl) (TV.list (by simp; omega) ?_)))) ?_)
  · cases ns with
    | nil => rw [if_neg (by simp)]; exact Ev.cint rfl
    | cons n ns =>
      rw [if_pos (by simp)]
      exact Ev.callT N.int.1 N.int.2 (Es.cons (Ev.itemL (Ev.nameL l _ (by rfl) (by rfl) (.inr hl) ⟨_, .inl rfl, Ev.cint ⟨0, .int n, rfl, by omega, by omega, rfl, Es.nil (CB.int rfl)⟩⟩))) (by rfl) (by rfl) (by rfl)
  clear_value first
  let e : Nat → Int := fun i => first + i
  have hlets : rowD [e 0, e 1, e 2] = .tup [.int first, .int (first + 1), .int (first + 2)] := by simp [rowD, e]
  refine Xs.cons (X1.assignD (rowD [e 0, e 1, e 2]) (Ev.ints (is := [first, first + 1, first + 2]) (by rfl) (by simp) ?_) ?_)
  · rw [hlets]; rfl
  refine Xs.cons (X1.assignN (Ev.list (Es.cons (Ev.tuple (Es.nil ⟨[], rfl, by simp, Es.cons (Ev.tuple (Es.nil ⟨[], rfl, by simp, Es.cons (Ev.tuple (Es.nil ⟨[], rfl, by simp, Es.nil ⟨[.tup [], .tup [], .tup []], rfl, by simp, _, rfl, fun Rw hRw hRwL => ?_⟩⟩)) (by rfl)⟩)) (by rfl)⟩)) (by rfl))) (by rfl) (by rfl))
  let ρ0 : Rho := [("rows", .val (.ref Rw)), ("letters", rowD [e 0, e 1, e 2]), ("first", .int first), ("script", .val (.ref l))]
  let st : List (List Nat) → Cell := fun rs => .list (rs.map fun r => rowD (r.map e))
  refine Xs.cons ?_
  refine X1.for (Itr.new hA (Ev.mono (Q := fun r => ∃ nums : List Int, r = .new (nums.map .int)) ?_ (fun r ⟨nums, hr⟩ => ⟨_, hr, ?_⟩))) (by rfl)
  · have hcut : (cut (ns.map D.int) (some 1) (some 13)).length < 2 ^ 20 := by have := cut_length (ns.map D.int) (some 1) (some 13); rw [List.length_map] at this; omega
    refine Ev.or2 (Ev.sliceL (lo := some 1) (hi := some 13) (by rfl) (by rfl) (by intro _ h; cases h; decide) (by intro _ h; cases h; decide) (Ev.nameL l (ns.map .int) (by rfl) (by rfl) (.inr hl) ⟨_, rfl, by simp; omega, TV.new hcut ?_⟩))
    split
    · exact ⟨cut ns (some 1) (some 13), by rw [cut_map]⟩
    · exact Ev.list (Es.ints (is := [6, 0, 1, 4, 7]) (by rfl) ⟨[6, 0, 1, 4, 7].map .int, by rfl, by simp, [6, 0, 1, 4, 7], rfl⟩)
  refine ⟨fun i ρ' σ' => Kp ρ0 ρ' ∧ ∃ rs : List (List Nat), rs.length = 3 ∧ (∀ r ∈ rs, OkR r) ∧ σ' Rw = some (st rs), ⟨Kp.refl_of (by rfl), [[], [], []], rfl, by simp [OkR], by rw [Sig.put_same]; rfl⟩, ?_, ?_⟩
  · rintro i d ρ' σ' hd ⟨hK, rs, hrs, hok, hσ⟩
    simp only [List.getElem?_map, Option.map_eq_some_iff] at hd
    obtain ⟨num, hnum, rfl⟩ := hd
    obtain ⟨p, hp, hpe⟩ := fmod3 num
    obtain ⟨k, hk, hke⟩ := fmod3 (num.fdiv 3)
    refine Xs.weaken (("number", .int num) :: ρ0) (hK.cons (by rfl)) ?_
    obtain ⟨r, hr⟩ : ∃ r, rs[p]? = some r := ⟨rs[p]'(by omega), List.getElem?_eq_getElem _⟩
    have hrok : OkR r := hok r (List.mem_of_getElem? hr)
    have hrd : (rs.map fun r => rowD (r.map e))[((p : Int)).toNat]? = some (rowD (r.map e)) := by
      rw [Int.toNat_natCast, List.getElem?_map, hr]; rfl
    refine Xs.cons (X1.assignD (.int (p : Int)) (Ev.modC (by decide) (Ev.callT N.int.1 N.int.2 (Es.cons (Ev.name (.int num) (by rfl) (by rfl) (Es.nil (CB.int ⟨num, rfl, by rw [hpe]⟩)))) (by rfl) (by rfl) (by rfl))) ?_)
    have hitem := fun {env : Env} {ρ : Rho} {px py pos : Pos} {Q : Res → Prop} (h1 : ρ.lookup ("rows" : Str) = some (.val (.ref Rw))) (h2 : ρ.lookup ("place" : Str) = some (.int (p : Int))) h3 h4 q => Ev.ownAt (X := CC w mg mb) (A := A) (g := g) (σ := σ') (env := env) (ρ := ρ) (px := px) (py := py) (pos := pos) (Q := Q) (x := "rows") (y := "place") h1 hσ h2 hrd (by omega) (by omega) q h3 h4
    refine Xs.cons (X1.ite (Tr.cmp (Ev.callB N.len.1 N.len.2 (Es.cons (hitem (by rfl) (by rfl) (by rfl) (by rfl) (Es.nil (CB.lenT (by simp; have := hrok.1; omega) (Ev.cint (CM.intLt ?_)))))) (by rfl) (by rfl) (by rfl)) (by rfl)))
    have hkp : Kp ρ0 (("place", .int (p : Int)) :: ("number", .int num) :: ρ0) := Kp.skip (Kp.skip (show Kp ρ0 ρ0 from Kp.refl_of (by rfl)) (by rfl)) (by rfl)
    by_cases hr3 : r.length < 3
    · rw [if_pos (by simp; omega)]
      have hlet : ([first, first + 1, first + 2].map D.int)[((k : Int)).toNat]? = some (.int (e k)) := by
        have : k = 0 ∨ k = 1 ∨ k = 2 := by omega
        rcases this with rfl | rfl | rfl <;> simp [e]
      refine Xs.cons (X1.setL (Ev.cat (hitem (by rfl) (by rfl) (by rfl) (by rfl) ⟨_, rfl, Ev.tuple (Es.cons (Ev.itemT (Ev.name (rowD [e 0, e 1, e 2]) (by rfl) (by rfl) ⟨[first, first + 1, first + 2].map .int, by rw [hlets]; rfl, Ev.modC (by decide) (Ev.divC (by decide) (by decide) (Ev.name (.int num) (by rfl) (by rfl) ⟨num, rfl, _, rfl, (k : Int), _, by rw [hke], by omega, by omega, hlet, Es.nil ⟨[.int (e k)], rfl, by simp, _, rfl, by simp; omega, _, rfl, Ev.name (.val (.ref Rw)) (by rfl) (by rfl) ⟨Rw, _, rfl, hσ, Ev.name (.int (p : Int)) (by rfl) (by rfl) ⟨p, rfl, by omega, by simp; omega, by simp; omega, ?_⟩⟩⟩⟩))⟩)) (by rfl))⟩)) (by rfl))
      refine Xs.nil (Xs.nil ⟨hkp, rs.set p (r ++ [k]), by simpa using hrs, fun q hq => ?_, ?_⟩)
      · rcases List.mem_or_eq_of_mem_set hq with h | rfl
        · exact hok q h
        · exact ⟨by simp; omega, fun i hi => by rcases List.mem_append.mp hi with h | h; exact hrok.2 i h; rw [List.mem_singleton.mp h]; exact hk⟩
      · rw [Sig.put_same]
        simp [st, List.map_set, rowD]
    · rw [if_neg (by simp; omega)]
      exact Xs.nil (Xs.nil ⟨hkp, rs, hrs, hok, hσ⟩)
  · rintro ρ' σ' ⟨hK, rs, hrs, hok, hσ⟩
    obtain ⟨a, b, c, rfl⟩ : ∃ a b c, rs = [a, b, c] := by
      match rs, hrs with
      | [a, b, c], _ => exact ⟨a, b, c, rfl⟩
    have ha := hok a (by simp)
    have hb := hok b (by simp)
    have hc := hok c (by simp)
    obtain ⟨M, dist, G, hU, hsz, hM, hval, e1, e2, e3, e4⟩ := (math first a b c ha hb hc).ok
    refine Xs.weaken ρ0 hK ?_
    refine Xs.cons (X1.assignT hA [("a", _), ("b", _), ("c", _)] (Ev.nameL Rw _ (by rfl) (by rfl) (.inl hσ) ⟨_, .inr (.inl rfl), by rfl, ?_⟩) (ho := by intro x hx; simp only [List.mem_cons, List.not_mem_nil, or_false] at hx; rcases hx with rfl | rfl | rfl <;> rfl))
    let ρ1 : Rho := ("c", rowD (c.map e)) :: ("b", rowD (b.map e)) :: ("a", rowD (a.map e)) :: ρ0
    refine Xs.weaken ρ1 (show Kp ρ1 ρ1 from Kp.refl_of (by rfl)) ?_
    let mx : Nat := max (max a.length b.length) c.length
    have hlenD : ∀ r : List Nat, OkR r → (r.map e).length < 2 ^ 20 := fun r hr => by have := hr.1; simp; omega
    have hargs : ∀ {Q : List Res → Prop} {es : List Expr}, True := trivial
    refine Xs.cons (X1.assignN (Ev.callF (n := 6) (hA.mono (by omega)) TT.runs (by rfl) (by rfl) (Es.cons (Ev.name (rowD (a.map e)) (by rfl) (by rfl) ?_)) (by rfl) (by rfl) (by rfl)) (by rfl) (by rfl))
    refine Es.cons (Ev.list (Es.cons (Ev.name (rowD (b.map e)) (by rfl) (by rfl) (Es.cons (Ev.name (rowD (c.map e)) (by rfl) (by rfl) (Es.nil ⟨[b.map e, c.map e].map rowD, by rfl, by simp, ?_⟩)))) (by rfl)))
    refine Es.cons (Ev.name (rowD [e 0, e 1, e 2]) (by rfl) (by rfl) ?_)
    have hz : ∀ r : List Nat, OkR r → ((r.map e).map D.int).length < 2 ^ 20 := fun r hr => by have := hr.1; simp; omega
    refine Es.cons (Ev.callB N.max.1 N.max.2 (Es.cons (Ev.callB N.len.1 N.len.2 (Es.cons (Ev.name (rowD (a.map e)) (by rfl) (by rfl) (Es.nil (CB.lenT (hz a ha) ?_)))) (by rfl) (by rfl) (by rfl)) (by rfl)) (by rfl) (by rfl) (by rfl)) (by rfl)
    refine Es.cons (Ev.callB N.len.1 N.len.2 (Es.cons (Ev.name (rowD (b.map e)) (by rfl) (by rfl) (Es.nil (CB.lenT (hz b hb) ?_)))) (by rfl) (by rfl) (by rfl)) (by rfl)
    refine Es.cons (Ev.callB N.len.1 N.len.2 (Es.cons (Ev.name (rowD (c.map e)) (by rfl) (by rfl) (Es.nil (CB.lenT (hz c hc) ?_)))) (by rfl) (by rfl) (by rfl)) (by rfl)
    refine Es.nil (CB.max3 hA ?_)
    have hmx : (max (max (((a.map e).map D.int).length : Int) ((b.map e).map D.int).length) ((c.map e).map D.int).length) = ((mx : Nat) : Int) := by simp [mx]; omega
    rw [hmx]
    refine Es.nil ((FnP.fn (runs_fn w mg mb N TT.deeds (a.map e) [e 0, e 1, e 2] [b.map e, c.map e] mx M dist (by simp [mx]; omega) (by simp) (by have h1 := ha.1; have h2 := hb.1; have h3 := hc.1; simp only [mx]; omega) (by simp) hsz hM hval)).mono fun r' hr' => ⟨_, hr', fun Dv hDv hDvL => ?_⟩)
    have hdr : [b.map e, c.map e].map (fun r => (dist r : Int)) = [(dist (b.map e) : Int), (dist (c.map e) : Int)] := rfl
    rw [hdr]
    refine Xs.cons (X1.makeFree w mg mb (n := 8) (hA.mono (by omega)) TT.cls fun I dx σ2 hO hkeep => ?_)
    have hDv2 := hkeep Dv _ (Sig.put_same _ _ _)
    have dst : ∀ (x y : List Nat), OkR x → OkR y → FnP (CC w mg mb) (fun h => Inst 189 100 h I 1 false) 8 (.ref 65) ([.d (.val (.ref I))] ++ [.d (rowD (x.map e)), .d (rowD (y.map e))]) [] (fun r => r = .d (.int (freeD (G (x.map e) (y.map e)) (x.map e) (y.map e)))) := fun x y hx hy =>
      dist1_fn w mg mb N I (x.map e) (y.map e) (by have := hx.1; simp; omega) (by have := hy.1; simp; omega) (G (x.map e) (y.map e)) (hU _ _)
    have gm : GetM (CC w mg mb) I (fun h => Inst 189 100 h I 1 false) "distance" (.ref 65) [.ref I] := GetM.fn (dlc w mg mb) (by decide) (by with_unfolding_all rfl) (by with_unfolding_all rfl)
    have hself : ∀ h, ARs h [.d (.val (.ref I))] [.ref I] := fun h => ⟨.ref I, [], rfl, by simp [AR, V], rfl⟩
    have hdD : [D.int (dist (b.map e) : Int), D.int (dist (c.map e) : Int)] = [(dist (b.map e) : Int), (dist (c.map e) : Int)].map (intIK (CC w mg mb)).toD := rfl
    refine Xs.cons (X1.ite (Tr.cmp (Ev.list (Es.cons (Ev.methodO (by rfl) (fun h S => hO.inst S) gm (As.plainO (n := 8) (hA.mono (by omega)) (by rfl) (fun h S => hO.inst S) hself (Es.cons (Ev.name (rowD (a.map e)) (by rfl) (by rfl) (Es.cons (Ev.name (rowD (b.map e)) (by rfl) (by rfl) (Es.nil ((dst a b ha hb).mono fun r1 hr1 => ?_)))))) (by rfl) (by rfl)) (by rfl)) (by rfl))) (by rfl)))
    rw [hr1, e1]
    refine Es.cons (Ev.methodO (by rfl) (fun h S => hO.inst S) gm (As.plainO (n := 8) (hA.mono (by omega)) (by rfl) (fun h S => hO.inst S) hself (Es.cons (Ev.name (rowD (a.map e)) (by rfl) (by rfl) (Es.cons (Ev.name (rowD (c.map e)) (by rfl) (by rfl) (Es.nil ((dst a c ha hc).mono fun r2 hr2 => ?_)))))) (by rfl) (by rfl)) (by rfl)) (by rfl)
    rw [hr2, e2]
    refine Es.nil ⟨[.int (dist (b.map e) : Int), .int (dist (c.map e) : Int)], by rfl, by simp, ?_⟩
    refine Ev.nameL Dv _ (by rfl) (by rfl) (.inl hDv2) (CM.listNe hA (intIK _) (.inr (by rw [hdD])) (.inl (by rfl)) ?_)
    rw [decide_eq_true rfl, if_neg (by simp)]
    refine Xs.nil (Xs.cons (X1.ret (Ev.cmp (Ev.list (Es.cons (Ev.methodO (by rfl) (fun h S => hO.inst S) gm (As.plainO (n := 8) (hA.mono (by omega)) (by rfl) (fun h S => hO.inst S) hself (Es.cons (Ev.name (rowD (b.map e)) (by rfl) (by rfl) (Es.cons (Ev.name (rowD (a.map e)) (by rfl) (by rfl) (Es.nil ((dst b a hb ha).mono fun r3 hr3 => ?_)))))) (by rfl) (by rfl)) (by rfl)) (by rfl))) (by rfl))))
    rw [hr3, e3]
    refine Es.cons (Ev.methodO (by rfl) (fun h S => hO.inst S) gm (As.plainO (n := 8) (hA.mono (by omega)) (by rfl) (fun h S => hO.inst S) hself (Es.cons (Ev.name (rowD (c.map e)) (by rfl) (by rfl) (Es.cons (Ev.name (rowD (a.map e)) (by rfl) (by rfl) (Es.nil ((dst c a hc ha).mono fun r4 hr4 => ?_)))))) (by rfl) (by rfl)) (by rfl)) (by rfl)
    rw [hr4, e4]
    refine Es.nil ⟨[.int (dist (b.map e) : Int), .int (dist (c.map e) : Int)], by rfl, by simp, ?_⟩
    refine Ev.nameL Dv _ (by rfl) (by rfl) (.inl hDv2) (CM.listEq hA (intIK _) (.inr (by rw [hdD])) (.inl (by rfl)) ?_)
    rw [decide_eq_true rfl]
    rfl
end Mine

namespace Mine
open PySem PySem.W PySem.Calls PyProof.Rows

theorem nmB {K : Frag} {h : Heap} {mg mb : Str → Option Value} (k : K.In h) (G : h.Ns mainGlobals mg) (B : ∀ x : Str, x ≠ "__name__" → mb x = bootBuiltins x) {x : Str} {v : Value} (h1 : nsIn K mainGlobals x = some none) (h2 : bootBuiltins x = some v) (h3 : x ≠ "__name__") : mg x = none ∧ mb x = some v :=
  ⟨mg_none_of k G h1, (B x h3).trans h2⟩

theorem vs_ints {h : Heap} {vs : List Value} {ns : List Int} (H : IntsAre vs ns) : Vs h (ns.map .int) vs := by
  induction H with
  | nil => exact .nil
  | cons n t H ih => exact .cons (by simp [V]) ih

theorem start_SX {X : Cx} {g h : Heap} {env : Env} {l : Addr} {m : Str → Option Value} (hg : GX X g) (F : Fr g env.locals h m) (hm : m "script" = some (.ref l)) (hk : env.scope.kind = .function) (hgl : env.globals = mainGlobals) (hb : env.builtins = builtinsNs) (hc : env.cells = [])
    (hkd : env.kindOf "script" = some .local) : SX X g env [("script", .val (.ref l))] (fun _ => none) h where
  glob := hg
  keep := F.keep
  kind := hk
  globals := hgl
  builtins := hb
  out := Heap.get?_none_of_le F.above
  ns := ⟨m, F.ns, fun x d hx _ => by
    simp only [List.lookup] at hx
    split at hx
    · rename_i hb
      have : x = "script" := by simpa using hb
      subst this
      cases hx
      exact ⟨_, hm, by simp [V]⟩
    · cases hx⟩
  cel := fun x d hx hkk => by
    simp only [List.lookup] at hx
    split at hx
    · rename_i hb
      have : x = "script" := by simpa using hb
      subst this
      rw [hkd] at hkk
      rcases hkk with h | h <;> cases h
    · cases hx
  cok := fun x c hx => by rw [hc] at hx; cases hx
  apart := fun x y c hx _ => by rw [hc] at hx; cases hx
  own := fun a c h => by cases h
end Mine

namespace Mine
open PySem PySem.W PySem.Calls PyProof.Rows

theorem nms_of {w : World} {p : Program} {loose : List Str} {mean : ExcName → Option Value} {mg mb : Str → Option Value} {h : Heap} (KX : (hd02.heap_39 w.params).In h) (T : Top p loose mean mg mb h) : Nms (CC w mg mb) :=
  ⟨nmB KX T.g T.builtins (by with_unfolding_all rfl) (by with_unfolding_all rfl) (by decide), nmB KX T.g T.builtins (by with_unfolding_all rfl) (by with_unfolding_all rfl) (by decide), nmB KX T.g T.builtins (by with_unfolding_all rfl) (by with_unfolding_all rfl) (by decide),
    nmB KX T.g T.builtins (by with_unfolding_all rfl) (by with_unfolding_all rfl) (by decide), nmB KX T.g T.builtins (by with_unfolding_all rfl) (by with_unfolding_all rfl) (by decide), nmB KX T.g T.builtins (by with_unfolding_all rfl) (by with_unfolding_all rfl) (by decide),
    nmB KX T.g T.builtins (by with_unfolding_all rfl) (by with_unfolding_all rfl) (by decide), nmB KX T.g T.builtins (by with_unfolding_all rfl) (by with_unfolding_all rfl) (by decide), nmB KX T.g T.builtins (by with_unfolding_all rfl) (by with_unfolding_all rfl) (by decide),
    nmB KX T.g T.builtins (by with_unfolding_all rfl) (by with_unfolding_all rfl) (by decide), nmB KX T.g T.builtins (by with_unfolding_all rfl) (by with_unfolding_all rfl) (by decide), nmB KX T.g T.builtins (by with_unfolding_all rfl) (by with_unfolding_all rfl) (by decide)⟩
theorem tops_of {w : World} {p : Program} {loose : List Str} {mean : ExcName → Option Value} {mg mb : Str → Option Value} {h : Heap} (KX : (hd02.heap_39 w.params).In h) (T : Top p loose mean mg mb h) : Tops mg :=
  ⟨mg_of KX T.g (by with_unfolding_all rfl), mg_of KX T.g (by with_unfolding_all rfl), mg_of KX T.g (by with_unfolding_all rfl)⟩

theorem law_run {w : World} {mg mb : Str → Option Value} {A : Around} {g : Heap} {env : Env} {l : Addr} {body : List Stmt} (N : Nms (CC w mg mb)) (TT : Tops mg) (math : ∀ (first : Int) (a b c : List Nat), OkR a → OkR b → OkR c → MathOK (fun i => first + i) a b c)
    (ns : List Int) (hl : LI g l (ns.map .int)) (hns : ns.length < 100) (hA : Rm 20 A) (H : ∃ fd, (∃ o, (CC w mg mb).K.lookup 210 = some o ∧ o.data = .func fd) ∧ fd.body = .stmts body ∧ ∃ L fa cd, env = envOf fd.name fd.scope L fa cd) :
    Xs (CC w mg mb) A g env [("script", .val (.ref l))] (fun _ => none) body (RetQ (fun r => r = .d (.val (.bool true)))) := by
  obtain ⟨fd, hfd, hbody, L, fa, cd, rfl⟩ := H
  exact law_body w mg mb N TT fd body hfd hbody L fa cd hA l ns hl hns math

set_option maxHeartbeats 8000000 in
theorem glue02 (math : ∀ (first : Int) (a b c : List Nat), OkR a → OkR b → OkR c → MathOK (fun i => first + i) a b c) : PySem.Challenge.rw_br0035_02.Holds := by
  refine hd02 ?_
  k_go0
  all_goals try k_fold
  rename (Frag.In _ _) => KX
  rename (Top _ _ _ _ _ _) => T
  rename (Fr _ _ _ _) => F
  rename (IntsAre _ _) => hI
  rename (Heap.IsList _ _ _) => hL
  rename (Shared.gens _ = _) => hg
  rename (¬ (_ < _)) => hlen
  have hz : ∀ {n : List Int}, ¬ (((63 : Nat) : Int) < n.length) → n.length < 100 := fun h => by omega
  refine wpAny_mono (law_run (nms_of KX T) (tops_of KX T) math _ ⟨_, hL, vs_ints hI⟩ (hz hlen) ?_ ⟨_, ⟨_, by rfl, by rfl⟩, by rfl, _, _, _, by rfl⟩ _ (start_SX ⟨KX, T.g, T.b, T.nolimit⟩ F (by rfl) (by rfl) (by rfl) (by rfl) (by rfl) (by rfl))) ?_ ?_
  · exact ⟨by rfl, by show callerA.depth + 1 + 20 < _; decide, by show callerA.units + _ + _ < _; decide⟩
  · rintro f s' ⟨af, ρ', σ', h', tk, rfl, S', P', hf, q⟩
    cases af with
    | ret r =>
      obtain ⟨v, rfl, hv⟩ := hf
      simp only [RetQ] at q
      subst q
      simp only [VR, V] at hv
      subst hv
      refine ⟨.inl ⟨_, _, [], rfl, fun _ => rfl, ReadsW.bool true, ?_, fun _ => ⟨List.nodup_nil, fun _ hm => (nomatch hm)⟩⟩, S'.keep, rfl, hg⟩
      first | rfl | wrow_post
    | nxt => cases q
    | cont => cases q
    | brk => cases q
  · rintro e s' h
    exact h.elim
end Mine

namespace Mine

/-! the free distance, by computation -/
section
variable {α : Type} [DecidableEq α]
def uF (xs ys : List α) : Nat → Nat → Nat → Int
  | 0, _, _ => 0
  | _ + 1, 0, j => j
  | _ + 1, i + 1, 0 => (i + 1 : Nat)
  | f + 1, i + 1, j + 1 => match xs[i]?, ys[j]? with
    | some x, some y =>
      min (min (min (uF xs ys f i j + if x = y then 0 else 1) (uF xs ys f (i + 1) j + 1)) (uF xs ys f i (j + 1) + 1))
        ((if lastOf xs i y = 0 ∨ lastOf ys j x = 0 then ((xs.length : Int) + ys.length) else uF xs ys f (lastOf xs i y - 1) (lastOf ys j x - 1)) + ((i + 1 : Int) - (lastOf xs i y : Nat)) - 1 + ((j + 1 : Int) - (lastOf ys j x : Nat)))
    | _, _ => 0
def uG (xs ys : List α) (a b : Int) : Int := if a < 0 ∨ b < 0 then (xs.length : Int) + ys.length else uF xs ys (a.toNat + b.toNat) a.toNat b.toNat
def freeN (x1 x2 : List α) : Int := if x1 = x2 then 0 else if x1.isEmpty || x2.isEmpty then (max x1.length x2.length : Nat) else uG x1 x2 x1.length x2.length
end

/-! rows by number: the search keyed so -/
def code : List Nat → Nat
  | [] => 0
  | x :: xs => 2 ^ x * (2 * code xs + 1)
def lkC : List (Nat × Nat) → Nat → Option Nat
  | [], _ => none
  | p :: l, k => bif Nat.beq p.1 k then some p.2 else lkC l k
def visitC (r : List Nat) (st : List (Nat × Nat) × List (List Nat)) (o : List Nat) : List (Nat × Nat) × List (List Nat) := if (lkC st.1 (code o)).isSome then st else (st.1 ++ [(code o, (lkC st.1 (code r)).getD 0 + 1)], st.2 ++ [o])
def rowStepC (letters : List Nat) (room : Nat) (st : List (Nat × Nat) × List (List Nat)) (r : List Nat) : List (Nat × Nat) × List (List Nat) := (deedsF r letters room).foldl (visitC r) st
def stepC (letters : List Nat) (room : Nat) (st : List (Nat × Nat) × List (List Nat)) : List (Nat × Nat) × List (List Nat) := st.2.foldl (rowStepC letters room) (st.1, [])
def bfsC (letters : List Nat) (room : Nat) (first : List Nat) : Nat → List (Nat × Nat) × List (List Nat)
  | 0 => ([(code first, 0)], [first])
  | n + 1 => stepC letters room (bfsC letters room first n)

def rows3 : List (List Nat) := [[]] ++ ([0, 1, 2].map fun a => [a]) ++ ([0, 1, 2].flatMap fun a => [0, 1, 2].map fun b => [a, b]) ++ ([0, 1, 2].flatMap fun a => [0, 1, 2].flatMap fun b => [0, 1, 2].map fun c => [a, b, c])
def chk (a : List Nat) (room : Nat) : Bool := a.length > room || (decide ((bfsC [0, 1, 2] room a 3).1.length < 1000) && rows3.all fun r => r.length > room || (match lkC (bfsC [0, 1, 2] room a 3).1 (code r) with | some d => freeN a r == (d : Int) && freeN r a == (d : Int) | none => false))
theorem chk_0 : ([0, 1, 2, 3].all fun room => chk [] room) = true := by decide +kernel
theorem chk_1 : ([0, 1, 2, 3].all fun room => chk [0] room) = true := by decide +kernel
theorem chk_2 : ([0, 1, 2, 3].all fun room => chk [1] room) = true := by decide +kernel
theorem chk_3 : ([0, 1, 2, 3].all fun room => chk [2] room) = true := by decide +kernel
theorem chk_4 : ([0, 1, 2, 3].all fun room => chk [0, 0] room) = true := by decide +kernel
theorem chk_5 : ([0, 1, 2, 3].all fun room => chk [0, 1] room) = true := by decide +kernel
theorem chk_6 : ([0, 1, 2, 3].all fun room => chk [0, 2] room) = true := by decide +kernel
theorem chk_7 : ([0, 1, 2, 3].all fun room => chk [1, 0] room) = true := by decide +kernel
theorem chk_8 : ([0, 1, 2, 3].all fun room => chk [1, 1] room) = true := by decide +kernel
theorem chk_9 : ([0, 1, 2, 3].all fun room => chk [1, 2] room) = true := by decide +kernel
theorem chk_10 : ([0, 1, 2, 3].all fun room => chk [2, 0] room) = true := by decide +kernel
theorem chk_11 : ([0, 1, 2, 3].all fun room => chk [2, 1] room) = true := by decide +kernel
theorem chk_12 : ([0, 1, 2, 3].all fun room => chk [2, 2] room) = true := by decide +kernel
theorem chk_13 : ([0, 1, 2, 3].all fun room => chk [0, 0, 0] room) = true := by decide +kernel
theorem chk_14 : ([0, 1, 2, 3].all fun room => chk [0, 0, 1] room) = true := by decide +kernel
theorem chk_15 : ([0, 1, 2, 3].all fun room => chk [0, 0, 2] room) = true := by decide +kernel
theorem chk_16 : ([0, 1, 2, 3].all fun room => chk [0, 1, 0] room) = true := by decide +kernel
theorem chk_17 : ([0, 1, 2, 3].all fun room => chk [0, 1, 1] room) = true := by decide +kernel
theorem chk_18 : ([0, 1, 2, 3].all fun room => chk [0, 1, 2] room) = true := by decide +kernel
theorem chk_19 : ([0, 1, 2, 3].all fun room => chk [0, 2, 0] room) = true := by decide +kernel
theorem chk_20 : ([0, 1, 2, 3].all fun room => chk [0, 2, 1] room) = true := by decide +kernel
theorem chk_21 : ([0, 1, 2, 3].all fun room => chk [0, 2, 2] room) = true := by decide +kernel
theorem chk_22 : ([0, 1, 2, 3].all fun room => chk [1, 0, 0] room) = true := by decide +kernel
theorem chk_23 : ([0, 1, 2, 3].all fun room => chk [1, 0, 1] room) = true := by decide +kernel
theorem chk_24 : ([0, 1, 2, 3].all fun room => chk [1, 0, 2] room) = true := by decide +kernel
theorem chk_25 : ([0, 1, 2, 3].all fun room => chk [1, 1, 0] room) = true := by decide +kernel
theorem chk_26 : ([0, 1, 2, 3].all fun room => chk [1, 1, 1] room) = true := by decide +kernel
theorem chk_27 : ([0, 1, 2, 3].all fun room => chk [1, 1, 2] room) = true := by decide +kernel
theorem chk_28 : ([0, 1, 2, 3].all fun room => chk [1, 2, 0] room) = true := by decide +kernel
theorem chk_29 : ([0, 1, 2, 3].all fun room => chk [1, 2, 1] room) = true := by decide +kernel
theorem chk_30 : ([0, 1, 2, 3].all fun room => chk [1, 2, 2] room) = true := by decide +kernel
theorem chk_31 : ([0, 1, 2, 3].all fun room => chk [2, 0, 0] room) = true := by decide +kernel
theorem chk_32 : ([0, 1, 2, 3].all fun room => chk [2, 0, 1] room) = true := by decide +kernel
theorem chk_33 : ([0, 1, 2, 3].all fun room => chk [2, 0, 2] room) = true := by decide +kernel
theorem chk_34 : ([0, 1, 2, 3].all fun room => chk [2, 1, 0] room) = true := by decide +kernel
theorem chk_35 : ([0, 1, 2, 3].all fun room => chk [2, 1, 1] room) = true := by decide +kernel
theorem chk_36 : ([0, 1, 2, 3].all fun room => chk [2, 1, 2] room) = true := by decide +kernel
theorem chk_37 : ([0, 1, 2, 3].all fun room => chk [2, 2, 0] room) = true := by decide +kernel
theorem chk_38 : ([0, 1, 2, 3].all fun room => chk [2, 2, 1] room) = true := by decide +kernel
theorem chk_39 : ([0, 1, 2, 3].all fun room => chk [2, 2, 2] room) = true := by decide +kernel
theorem chk_all : ∀ a ∈ rows3, ([0, 1, 2, 3].all fun room => chk a room) = true := by
  intro a ha
  have h : rows3 = [[], [0], [1], [2], [0, 0], [0, 1], [0, 2], [1, 0], [1, 1], [1, 2], [2, 0], [2, 1], [2, 2], [0, 0, 0], [0, 0, 1], [0, 0, 2], [0, 1, 0], [0, 1, 1], [0, 1, 2], [0, 2, 0], [0, 2, 1], [0, 2, 2], [1, 0, 0], [1, 0, 1], [1, 0, 2], [1, 1, 0], [1, 1, 1], [1, 1, 2], [1, 2, 0], [1, 2, 1], [1, 2, 2], [2, 0, 0], [2, 0, 1], [2, 0, 2], [2, 1, 0], [2, 1, 1], [2, 1, 2], [2, 2, 0], [2, 2, 1], [2, 2, 2]] := by decide +kernel
  rw [h] at ha
  simp only [List.mem_cons, List.not_mem_nil, or_false] at ha
  rcases ha with rfl | rfl | rfl | rfl | rfl | rfl | rfl | rfl | rfl | rfl | rfl | rfl | rfl | rfl | rfl | rfl | rfl | rfl | rfl | rfl | rfl | rfl | rfl | rfl | rfl | rfl | rfl | rfl | rfl | rfl | rfl | rfl | rfl | rfl | rfl | rfl | rfl | rfl | rfl | rfl
  · exact chk_0
  · exact chk_1
  · exact chk_2
  · exact chk_3
  · exact chk_4
  · exact chk_5
  · exact chk_6
  · exact chk_7
  · exact chk_8
  · exact chk_9
  · exact chk_10
  · exact chk_11
  · exact chk_12
  · exact chk_13
  · exact chk_14
  · exact chk_15
  · exact chk_16
  · exact chk_17
  · exact chk_18
  · exact chk_19
  · exact chk_20
  · exact chk_21
  · exact chk_22
  · exact chk_23
  · exact chk_24
  · exact chk_25
  · exact chk_26
  · exact chk_27
  · exact chk_28
  · exact chk_29
  · exact chk_30
  · exact chk_31
  · exact chk_32
  · exact chk_33
  · exact chk_34
  · exact chk_35
  · exact chk_36
  · exact chk_37
  · exact chk_38
  · exact chk_39
end Mine

namespace Mine
section
variable {α β : Type} [DecidableEq α] [DecidableEq β]

theorem uF_succ (xs ys : List α) : ∀ f i j, i + j ≤ f → uF xs ys (f + 1) i j = uF xs ys f i j := by
  intro f
  induction f with
  | zero =>
    intro i j h
    have : i = 0 := by omega
    have : j = 0 := by omega
    subst_vars
    rfl
  | succ f ih =>
    intro i j h
    match i, j with
    | 0, j => rfl
    | i + 1, 0 => rfl
    | i + 1, j + 1 =>
      rw [uF, uF]
      split
      · have h1 := lastOf_le xs ‹α› i
        rename_i x y hx hy
        have h1 := lastOf_le xs y i
        have h2 := lastOf_le ys x j
        rw [ih i j (by omega), ih (i + 1) j (by omega), ih i (j + 1) (by omega), ih (lastOf xs i y - 1) (lastOf ys j x - 1) (by omega)]
      · rfl
theorem uF_le (xs ys : List α) (i j : Nat) : ∀ f, i + j ≤ f → uF xs ys f i j = uF xs ys (i + j) i j := by
  intro f
  induction f with
  | zero => intro h; rw [show i + j = 0 by omega]
  | succ f ih =>
    intro h
    by_cases e : i + j = f + 1
    · rw [e]
    · rw [uF_succ xs ys f i j (by omega), ih (by omega)]
theorem uG_nat (xs ys : List α) (i j : Nat) : uG xs ys i j = uF xs ys (i + j) i j := by
  unfold uG
  rw [if_neg (by omega)]
  simp
theorem uG_rec (xs ys : List α) : URec xs ys (uG xs ys) where
  corner := by unfold uG; rw [if_pos (by omega)]
  left := fun i _ => by unfold uG; rw [if_pos (by omega)]
  top := fun j _ => by unfold uG; rw [if_pos (by omega)]
  zi := fun i _ => by
    rw [show (0 : Int) = ((0 : Nat) : Int) by rfl, uG_nat]
    cases i <;> rfl
  zj := fun j _ => by
    rw [show (0 : Int) = ((0 : Nat) : Int) by rfl, uG_nat]
    cases j with
    | zero => rfl
    | succ j => rw [Nat.zero_add, uF]
  step := fun i j x y hx hy => by
    have h1 := lastOf_le xs y i
    have h2 := lastOf_le ys x j
    have e1 : uG xs ys ((lastOf xs i y : Nat) - 1) ((lastOf ys j x : Nat) - 1) = if lastOf xs i y = 0 ∨ lastOf ys j x = 0 then ((xs.length : Int) + ys.length) else uF xs ys (i + j + 1) (lastOf xs i y - 1) (lastOf ys j x - 1) := by
      split
      · unfold uG; rw [if_pos (by omega)]
      · rw [show ((lastOf xs i y : Nat) : Int) - 1 = ((lastOf xs i y - 1 : Nat) : Int) by omega, show ((lastOf ys j x : Nat) : Int) - 1 = ((lastOf ys j x - 1 : Nat) : Int) by omega, uG_nat, uF_le _ _ _ _ (i + j + 1) (by omega)]
    rw [e1, show ((i : Int) + 1) = ((i + 1 : Nat) : Int) by rfl, show ((j : Int) + 1) = ((j + 1 : Nat) : Int) by rfl, uG_nat, uG_nat, uG_nat, uG_nat, show i + 1 + (j + 1) = (i + j + 1) + 1 by omega, uF]
    rw [hx, hy]
    simp only
    rw [uF_le _ _ i j (i + j + 1) (by omega), uF_le _ _ (i + 1) j (i + j + 1) (by omega), uF_le _ _ i (j + 1) (i + j + 1) (by omega)]
    rfl

/-! other names for the letters -/
variable {e : α → β} (he : ∀ x y, e x = e y → x = y)
include he
theorem map_inj {x y : List α} (h : x.map e = y.map e) : x = y := (List.map_inj_right (fun a b h => he a b h)).mp h
theorem lastOf_map (xs : List α) (c : α) : ∀ k, lastOf (xs.map e) k (e c) = lastOf xs k c
  | 0 => rfl
  | k + 1 => by
    have : (xs.map e)[k]? = some (e c) ↔ xs[k]? = some c := by
      rw [List.getElem?_map]
      cases xs[k]? with
      | none => simp
      | some x => simp; exact ⟨fun h => he _ _ h, fun h => by rw [h]⟩
    unfold lastOf
    simp only [this, lastOf_map xs c k]
theorem uF_map (xs ys : List α) : ∀ f i j, uF (xs.map e) (ys.map e) f i j = uF xs ys f i j := by
  intro f
  induction f with
  | zero => intro i j; rfl
  | succ f ih =>
    intro i j
    match i, j with
    | 0, j => rfl
    | i + 1, 0 => rfl
    | i + 1, j + 1 =>
      rw [uF, uF]
      rw [List.getElem?_map, List.getElem?_map]
      cases hx : xs[i]? with
      | none => rfl
      | some x =>
        cases hy : ys[j]? with
        | none => rfl
        | some y =>
          have : (e x = e y) ↔ x = y := ⟨fun h => he _ _ h, fun h => by rw [h]⟩
          simp only [Option.map_some, lastOf_map he, ih, List.length_map, this]
theorem freeN_map (x y : List α) : freeN (x.map e) (y.map e) = freeN x y := by
  unfold freeN
  have h1 : (x.map e = y.map e) ↔ x = y := ⟨fun h => map_inj he h, fun h => by rw [h]⟩
  have h2 : ∀ z : List α, (z.map e).isEmpty = z.isEmpty := fun z => by cases z <;> rfl
  simp only [h1, h2, List.length_map]
  rw [uG_nat, uG_nat, uF_map he]
omit he in
theorem deedsF_map (e : α → β) (r letters : List α) (room : Nat) : deedsF (r.map e) (letters.map e) room = (deedsF r letters room).map (List.map e) := by
  unfold deedsF
  rw [List.length_map, List.map_flatMap]
  congr 1
  funext k
  unfold deedsK
  rw [List.map_append, List.flatMap_map, List.map_flatMap]
  congr 1
  · congr 1
    funext l
    unfold deedsL
    rw [List.length_map, List.map_append]
    congr 1 <;> split <;> simp [List.map_take, List.map_drop]
  · unfold deedsT
    rw [List.length_map, List.map_append]
    congr 1
    · split <;> simp [List.map_take, List.map_drop]
    · rw [List.getElem?_map, List.getElem?_map]
      cases r[k + 1]? <;> cases r[k]? <;> simp [List.map_take, List.map_drop]
def mpF (e : α → β) (s : Far α × List (List α)) : Far β × List (List β) := (s.1.map fun p => (p.1.map e, p.2), s.2.map (List.map e))
theorem lk_map (far : Far α) (r : List α) : lk (far.map fun p => (p.1.map e, p.2)) (r.map e) = lk far r := by
  unfold lk
  induction far with
  | nil => rfl
  | cons p far ih =>
    have : (p.1.map e = r.map e) ↔ p.1 = r := ⟨fun h => map_inj he h, fun h => by rw [h]⟩
    by_cases h : p.1 = r
    · simp [List.find?, h]
    · have h' : ¬ p.1.map e = r.map e := fun x => h (map_inj he x)
      simp [List.find?, h, h'] at ih ⊢
      exact ih
theorem visit_map (r o : List α) (s : Far α × List (List α)) : visitF (r.map e) (mpF e s) (o.map e) = mpF e (visitF r s o) := by
  unfold visitF
  have : (mpF e s).1 = s.1.map fun p => (p.1.map e, p.2) := rfl
  rw [this, lk_map he, lk_map he]
  split
  · rfl
  · simp [mpF]
theorem foldl_visit_map (r : List α) : ∀ (os : List (List α)) (s : Far α × List (List α)), (os.map (List.map e)).foldl (visitF (r.map e)) (mpF e s) = mpF e (os.foldl (visitF r) s)
  | [], s => rfl
  | o :: os, s => by rw [List.map_cons, List.foldl_cons, List.foldl_cons, visit_map he, foldl_visit_map r os]
theorem rowStep_map (letters : List α) (room : Nat) (s : Far α × List (List α)) (r : List α) : rowStep (letters.map e) room (mpF e s) (r.map e) = mpF e (rowStep letters room s r) := by
  unfold rowStep
  rw [deedsF_map, foldl_visit_map he]
theorem foldl_row_map (letters : List α) (room : Nat) : ∀ (rs : List (List α)) (s : Far α × List (List α)), (rs.map (List.map e)).foldl (rowStep (letters.map e) room) (mpF e s) = mpF e (rs.foldl (rowStep letters room) s)
  | [], s => rfl
  | r :: rs, s => by rw [List.map_cons, List.foldl_cons, List.foldl_cons, rowStep_map he, foldl_row_map letters room rs]
theorem bfs_map (letters : List α) (room : Nat) (first : List α) : ∀ t, bfs (letters.map e) room (first.map e) t = mpF e (bfs letters room first t)
  | 0 => rfl
  | t + 1 => by
    rw [bfs, bfs, bfs_map letters room first t]
    exact foldl_row_map he letters room (bfs letters room first t).2 ((bfs letters room first t).1, [])
end

section
variable {α : Type} [DecidableEq α]
theorem visit_lk (r o k : List α) (s : Far α × List (List α)) {d : Nat} (h : lk s.1 k = some d) : lk (visitF r s o).1 k = some d := by
  unfold visitF
  split
  · exact h
  · rw [lk_keep (by rw [h]; rfl)]; exact h
theorem foldl_lk {β : Type} (f : Far α × List (List α) → β → Far α × List (List α)) (k : List α) (d : Nat) (hf : ∀ s b, lk s.1 k = some d → lk (f s b).1 k = some d) : ∀ (l : List β) s, lk s.1 k = some d → lk (l.foldl f s).1 k = some d
  | [], s, h => h
  | b :: l, s, h => foldl_lk f k d hf l _ (hf s b h)
theorem bfs_keep (letters : List α) (room : Nat) (first k : List α) (d : Nat) : ∀ n t, lk (bfs letters room first t).1 k = some d → lk (bfs letters room first (t + n)).1 k = some d
  | 0, t, h => h
  | n + 1, t, h => by
    have := bfs_keep letters room first k d n t h
    rw [show t + (n + 1) = (t + n) + 1 by omega, bfs]
    unfold stepF
    exact foldl_lk _ k d (fun s r h => foldl_lk _ k d (fun s o h => visit_lk r o k s h) _ _ h) _ _ this
theorem bfs_len (letters : List α) (room : Nat) (first : List α) : ∀ n t, (bfs letters room first t).1.length ≤ (bfs letters room first (t + n)).1.length
  | 0, t => Nat.le_refl _
  | n + 1, t => by
    refine Nat.le_trans (bfs_len letters room first n t) ?_
    rw [show t + (n + 1) = (t + n) + 1 by omega, bfs]
    unfold stepF
    exact foldl_mono _ (rowStep_mono letters room) _ ((bfs letters room first (t + n)).1, [])
end

/-! the search by number is the search -/
theorem pow_odd : ∀ x y a b : Nat, 2 ^ x * (2 * a + 1) = 2 ^ y * (2 * b + 1) → x = y ∧ a = b
  | 0, 0, a, b, h => by simp only [Nat.pow_zero, Nat.one_mul] at h; exact ⟨rfl, by omega⟩
  | 0, y + 1, a, b, h => by rw [Nat.pow_succ, Nat.mul_comm (2 ^ y) 2, Nat.mul_assoc, Nat.pow_zero, Nat.one_mul] at h; omega
  | x + 1, 0, a, b, h => by rw [Nat.pow_succ, Nat.mul_comm (2 ^ x) 2, Nat.mul_assoc, Nat.pow_zero, Nat.one_mul] at h; omega
  | x + 1, y + 1, a, b, h => by
    rw [Nat.pow_succ, Nat.pow_succ, Nat.mul_comm (2 ^ x) 2, Nat.mul_comm (2 ^ y) 2, Nat.mul_assoc, Nat.mul_assoc] at h
    have := pow_odd x y a b (by omega)
    exact ⟨by omega, this.2⟩
theorem code_inj : ∀ x y : List Nat, code x = code y → x = y
  | [], [], _ => rfl
  | [], y :: ys, h => by
    have : 0 < 2 ^ y * (2 * code ys + 1) := Nat.mul_pos (Nat.two_pow_pos y) (by omega)
    simp only [code] at h; omega
  | x :: xs, [], h => by
    have : 0 < 2 ^ x * (2 * code xs + 1) := Nat.mul_pos (Nat.two_pow_pos x) (by omega)
    simp only [code] at h; omega
  | x :: xs, y :: ys, h => by
    obtain ⟨h1, h2⟩ := pow_odd x y _ _ h
    rw [h1, code_inj xs ys h2]
def mpC (s : Far Nat × List (List Nat)) : List (Nat × Nat) × List (List Nat) := (s.1.map fun p => (code p.1, p.2), s.2)
theorem lkC_eq (r : List Nat) : ∀ far : Far Nat, lkC (far.map fun p => (code p.1, p.2)) (code r) = lk far r
  | [] => rfl
  | p :: far => by
    have ih := lkC_eq r far
    rw [List.map_cons, lkC]
    unfold lk at ih ⊢
    by_cases h : p.1 = r
    · simp [List.find?, h]
    · have h' : Nat.beq (code p.1) (code r) = false := by
        cases hb : Nat.beq (code p.1) (code r) with
        | false => rfl
        | true => exact absurd (code_inj _ _ (Nat.eq_of_beq_eq_true hb)) h
      simp [List.find?, h, h']
      simpa using ih
theorem visitC_eq (r o : List Nat) (s : Far Nat × List (List Nat)) : visitC r (mpC s) o = mpC (visitF r s o) := by
  unfold visitC visitF
  have : (mpC s).1 = s.1.map fun p => (code p.1, p.2) := rfl
  rw [this, lkC_eq, lkC_eq]
  split
  · rfl
  · simp [mpC]
theorem foldl_visitC (r : List Nat) : ∀ (os : List (List Nat)) (s : Far Nat × List (List Nat)), os.foldl (visitC r) (mpC s) = mpC (os.foldl (visitF r) s)
  | [], s => rfl
  | o :: os, s => by rw [List.foldl_cons, List.foldl_cons, visitC_eq, foldl_visitC r os]
theorem foldl_rowC (letters : List Nat) (room : Nat) : ∀ (rs : List (List Nat)) (s : Far Nat × List (List Nat)), rs.foldl (rowStepC letters room) (mpC s) = mpC (rs.foldl (rowStep letters room) s)
  | [], s => rfl
  | r :: rs, s => by
    have : rowStepC letters room (mpC s) r = mpC (rowStep letters room s r) := foldl_visitC r _ s
    rw [List.foldl_cons, List.foldl_cons, this, foldl_rowC letters room rs]
theorem bfsC_eq (letters : List Nat) (room : Nat) (first : List Nat) : ∀ t, bfsC letters room first t = mpC (bfs letters room first t)
  | 0 => rfl
  | t + 1 => by
    rw [bfs, bfsC, bfsC_eq letters room first t]
    exact foldl_rowC letters room (bfs letters room first t).2 ((bfs letters room first t).1, [])

theorem mem_rows3 {r : List Nat} (h : OkR r) : r ∈ rows3 := by
  obtain ⟨h1, h2⟩ := h
  have L : ∀ x : Nat, x < 3 → x = 0 ∨ x = 1 ∨ x = 2 := fun x hx => by omega
  match r, h1, h2 with
  | [], _, _ => decide
  | [a], _, h2 =>
    rcases L a (h2 a (by simp)) with rfl | rfl | rfl <;> decide
  | [a, b], _, h2 =>
    rcases L a (h2 a (by simp)) with rfl | rfl | rfl <;> rcases L b (h2 b (by simp)) with rfl | rfl | rfl <;> decide
  | [a, b, c], _, h2 =>
    rcases L a (h2 a (by simp)) with rfl | rfl | rfl <;> rcases L b (h2 b (by simp)) with rfl | rfl | rfl <;> rcases L c (h2 c (by simp)) with rfl | rfl | rfl <;> decide
  | a :: b :: c :: d :: r, h1, _ => simp at h1

theorem chk_of {a : List Nat} {room : Nat} (ha : OkR a) (hl : a.length ≤ room) (hr : room ≤ 3) : (bfs [0, 1, 2] room a 3).1.length < 1000 ∧ ∀ r, OkR r → r.length ≤ room → ∃ d, lk (bfs [0, 1, 2] room a 3).1 r = some d ∧ freeN a r = (d : Int) ∧ freeN r a = (d : Int) := by
  have h := List.all_eq_true.mp (chk_all a (mem_rows3 ha)) room (by have : room = 0 ∨ room = 1 ∨ room = 2 ∨ room = 3 := by omega
                                                                    rcases this with rfl | rfl | rfl | rfl <;> decide)
  unfold chk at h
  have hl1 : (bfsC [0, 1, 2] room a 3).1.length = (bfs [0, 1, 2] room a 3).1.length := by rw [bfsC_eq]; simp [mpC]
  have hl2 : ∀ r, lkC (bfsC [0, 1, 2] room a 3).1 (code r) = lk (bfs [0, 1, 2] room a 3).1 r := fun r => by rw [bfsC_eq]; exact lkC_eq r _
  simp only [hl1, hl2] at h
  simp only [Bool.or_eq_true, decide_eq_true_eq, Bool.and_eq_true, List.all_eq_true] at h
  rcases h with h | ⟨h1, h2⟩
  · omega
  · refine ⟨h1, fun r hr hrl => ?_⟩
    have := h2 r (mem_rows3 hr)
    rcases this with h | h
    · omega
    · split at h
      · rename_i d hd
        simp only [Bool.and_eq_true, beq_iff_eq] at h
        exact ⟨d, hd, h.1, h.2⟩
      · cases h

theorem math02 (first : Int) (a b c : List Nat) (ha : OkR a) (hb : OkR b) (hc : OkR c) : MathOK (fun i => first + i) a b c := by
  have he : ∀ x y : Nat, (fun i : Nat => first + (i : Int)) x = (fun i : Nat => first + (i : Int)) y → x = y := fun x y h => by
    have : first + (x : Int) = first + (y : Int) := h
    omega
  let e : Nat → Int := fun i => first + (i : Int)
  have he : ∀ x y, e x = e y → x = y := he
  have hmap : ([e 0, e 1, e 2] : List Int) = [0, 1, 2].map e := rfl
  let room := max (max a.length b.length) c.length
  have hroom : room ≤ 3 := by have := ha.1; have := hb.1; have := hc.1; omega
  obtain ⟨hsz, hall⟩ := chk_of (room := room) ha (by omega) hroom
  have hB : ∀ t, bfs [e 0, e 1, e 2] room (a.map e) t = mpF e (bfs [0, 1, 2] room a t) := fun t => by rw [hmap, bfs_map he]
  have hL : ∀ t r, lk (bfs [e 0, e 1, e 2] room (a.map e) t).1 (r.map e) = lk (bfs [0, 1, 2] room a t).1 r := fun t r => by
    rw [hB t]; exact lk_map he _ _
  have hF : ∀ x y : List Int, freeD (uG x y) x y = freeN x y := fun x y => rfl
  have key : ∀ r, OkR r → r.length ≤ room → ∃ d : Nat, lk (bfs [0, 1, 2] room a 3).1 r = some d ∧ freeN (a.map e) (r.map e) = (d : Int) ∧ freeN (r.map e) (a.map e) = (d : Int) := fun r hr hl => by
    obtain ⟨d, h1, h2, h3⟩ := hall r hr hl
    exact ⟨d, h1, by rw [freeN_map he]; exact h2, by rw [freeN_map he]; exact h3⟩
  obtain ⟨db, b1, b2, b3⟩ := key b hb (by omega)
  obtain ⟨dc, c1, c2, c3⟩ := key c hc (by omega)
  have hdb : ((freeN (a.map e) (b.map e)).toNat : Int) = db := by rw [b2]; simp
  have hdc : ((freeN (a.map e) (c.map e)).toNat : Int) = dc := by rw [c2]; simp
  refine ⟨3, fun r => (freeN (a.map e) r).toNat, fun x y => uG x y, fun x y => uG_rec x y, fun t ht => ?_, fun r hr => ?_, fun t ht r hr d hd => ?_, ?_, ?_, ?_, ?_⟩
  · show (bfs [e 0, e 1, e 2] room (a.map e) t).1.length < 1000
    rw [hB t]
    have : (mpF e (bfs [0, 1, 2] room a t)).1.length = (bfs [0, 1, 2] room a t).1.length := by simp [mpF]
    rw [this]
    have := bfs_len [0, 1, 2] room a (3 - t) t
    rw [show t + (3 - t) = 3 by omega] at this
    omega
  · show (lk (bfs [e 0, e 1, e 2] room (a.map e) 3).1 r).isSome = true
    simp only [List.mem_cons, List.not_mem_nil, or_false] at hr
    rcases hr with rfl | rfl
    · rw [hL 3 b, b1]; rfl
    · rw [hL 3 c, c1]; rfl
  · have hd : lk (bfs [e 0, e 1, e 2] room (a.map e) t).1 r = some d := hd
    have fin : ∀ x dx, lk (bfs [0, 1, 2] room a 3).1 x = some dx → lk (bfs [e 0, e 1, e 2] room (a.map e) t).1 (x.map e) = some d → d = dx := fun x dx hx hd => by
      rw [hL t x] at hd
      have := bfs_keep [0, 1, 2] room a x d (3 - t) t hd
      rw [show t + (3 - t) = 3 by omega, hx] at this
      exact (Option.some.inj this).symm
    simp only [List.mem_cons, List.not_mem_nil, or_false] at hr
    rcases hr with rfl | rfl
    · have := fin b db b1 hd; subst this; show d = (freeN (a.map e) (b.map e)).toNat; omega
    · have := fin c dc c1 hd; subst this; show d = (freeN (a.map e) (c.map e)).toNat; omega
  · show freeN (a.map e) (b.map e) = ((freeN (a.map e) (b.map e)).toNat : Int); rw [hdb, b2]
  · show freeN (a.map e) (c.map e) = ((freeN (a.map e) (c.map e)).toNat : Int); rw [hdc, c2]
  · show freeN (b.map e) (a.map e) = ((freeN (a.map e) (b.map e)).toNat : Int); rw [hdb, b3]
  · show freeN (c.map e) (a.map e) = ((freeN (a.map e) (c.map e)).toNat : Int); rw [hdc, c3]
end Mine

open PySem PySem.W PyProof.Rows
theorem PySem.Challenge.cw_br0035_02_holds : PySem.Challenge.rw_br0035_02.Holds := by
  exact Mine.glue02 Mine.math02

