import PyProof.Rows.All
import Wide.All
import OpenK.AllK
import Wide.FinOn
import Lean
import PySem.Challenge.RW_dm0116_04
open PySem PySem.W PyProof.Rows
set_option Elab.async false
set_option maxRecDepth 100000
set_option linter.unusedVariables false


namespace Mine
open PySem PyProof.Rows

/-- plain data -/
inductive D where
  | none
  | bool (b : Bool)
  | int (i : Int)
  | str (s : Str)
  | list (ds : List D)
  | tuple (ds : List D)
  | key (c : Addr) (d : D)
  | val (v : Value)

/-- heaps: kept but for the addresses T -/
structure Ext (T : List Addr) (h h' : Heap) : Prop where
  keep : ∀ b o, b ∉ T → h.get? b = some o → h'.get? b = some o
  there : ∀ b o, h.get? b = some o → ∃ o', h'.get? b = some o'
  old : ∀ h₀, OldK h₀ h → OldK h₀ h'

theorem Ext.of_keep {T : List Addr} {h h' : Heap} (k : ∀ b o, h.get? b = some o → h'.get? b = some o) : Ext T h h' :=
  ⟨fun b o _ e => k b o e, fun b o e => ⟨o, k b o e⟩, fun _ K => K.step_keeps k⟩
theorem Ext.refl (T : List Addr) (h : Heap) : Ext T h h := .of_keep fun _ _ e => e
theorem Ext.trans {T : List Addr} {h h' h'' : Heap} (x : Ext T h h') (y : Ext T h' h'') : Ext T h h'' :=
  ⟨fun b o n e => y.keep b o n (x.keep b o n e), fun b o e => let ⟨o', e'⟩ := x.there b o e; y.there b o' e', fun h₀ K => y.old h₀ (x.old h₀ K)⟩
theorem Ext.strict {h h' : Heap} (x : Ext [] h h') : ∀ b o, h.get? b = some o → h'.get? b = some o := fun b o e => x.keep b o (by simp) e
theorem Ext.wider {T : List Addr} {h h' : Heap} (x : Ext [] h h') : Ext T h h' := .of_keep x.strict
theorem Ext.more {T T' : List Addr} {h h' : Heap} (x : Ext T h h') (k : ∀ a ∈ T, a ∈ T') : Ext T' h h' := ⟨fun b o n e => x.keep b o (fun z => n (k b z)) e, x.there, x.old⟩
theorem Ext.push {T : List Addr} {h h' : Heap} (x : Ext T h h') (o : Obj) : Ext T h (h'.push o) :=
  x.trans (.of_keep fun _ _ e => Heap.get?_push_of_some o e)

theorem oldK_extBut {h₀ h h' : Heap} (K : OldK h₀ h) {a : Addr} (ha : h₀.get? a = none) (hs : Heap.ExtBut a h h') : OldK h₀ h' := by
  have ne : ∀ b o, h₀.get? b = some o → b ≠ a := fun b o e z => by subst z; rw [ha] at e; cases e
  refine ⟨fun b o e => ?_, fun b o e => let ⟨o', ho'⟩ := K.there b o e; ⟨o', hs b o' (ne b o e) ho'⟩⟩
  rcases K.old b o e with x | ⟨t, hc, vs, more, hv, x⟩ | ⟨rfl, hc, ⟨o', es, n, ho', r⟩, z⟩
  · exact .inl (hs _ _ (ne b o e) x)
  · exact .inr (.inl ⟨t, hc, vs, more, hv, hs _ _ (ne b o e) x⟩)
  · exact .inr (.inr ⟨rfl, hc, ⟨o', es, n, hs _ _ (ne _ o e) ho', r⟩, fun key => by
      rw [OldK.staticOf_congr ((hs _ _ (ne _ o e) ho').trans ho'.symm) key]; exact z key⟩)

theorem Ext.extBut {T : List Addr} {h h' h'' : Heap} {a : Addr} (x : Ext T h h') (ha : h.get? a = none) (hs : Heap.ExtBut a h' h'') : Ext T h h'' := by
  have ne : ∀ b o, h.get? b = some o → b ≠ a := fun b o e z => by subst z; rw [ha] at e; cases e
  refine ⟨fun b o n e => hs _ _ (ne b o e) (x.keep b o n e), fun b o e => let ⟨o', e'⟩ := x.there b o e; ⟨o', hs _ _ (ne b o e) e'⟩, fun h₀ K => ?_⟩
  refine oldK_extBut (x.old h₀ K) ?_ hs
  cases q : h₀.get? a with
  | none => rfl
  | some o => obtain ⟨o', e'⟩ := K.there a o q; rw [ha] at e'; cases e'
theorem Ext.sameBut {T : List Addr} {h h' h'' : Heap} {a : Addr} (x : Ext T h h') (ha : h.get? a = none) (hs : Heap.SameBut a h' h'') : Ext T h h'' := x.extBut ha hs.extBut

theorem Ext.fresh {T : List Addr} {h h' : Heap} (x : Ext T h h') {a : Addr} (ha : h'.get? a = none) : h.get? a = none := by
  cases q : h.get? a with
  | none => rfl
  | some o => obtain ⟨o', e'⟩ := x.there a o q; rw [ha] at e'; cases e'
theorem get_size (h : Heap) : h.get? h.objs.size = none := by
  cases q : h.get? h.objs.size with
  | none => rfl
  | some o => exact absurd (Heap.lt_size q) (Nat.lt_irrefl _)

structure SExt (T : List Addr) (s s' : Shared) : Prop where
  ext : Ext T s.heap s'.heap
  gens : s'.gens = s.gens
  os : s'.os = s.os
theorem SExt.refl (T : List Addr) (s : Shared) : SExt T s s := ⟨.refl .., rfl, rfl⟩
theorem SExt.trans {T : List Addr} {s s' s'' : Shared} (x : SExt T s s') (y : SExt T s' s'') : SExt T s s'' := ⟨x.ext.trans y.ext, y.gens.trans x.gens, y.os.trans x.os⟩
theorem SExt.wider {T : List Addr} {s s' : Shared} (x : SExt [] s s') : SExt T s s' := ⟨x.ext.wider, x.gens, x.os⟩

/-- a key of cmp_to_key's class at c -/
def KeyAt (h : Heap) (a c : Addr) (v : Value) : Prop := ∃ o, h.get? a = some o ∧ o.cls = .ref c ∧ o.data = .plain ∧ o.slots = #[some v] ∧ o.dict = none

mutual
inductive Rep (W : List Addr) (h : Heap) : Value → D → Prop
  | nun : Rep W h .none .none
  | bool (b : Bool) : Rep W h (.bool b) (.bool b)
  | int (i : Int) (t : Tok) : Rep W h (.int i t) (.int i)
  | str (s : Str) (t : Tok) : Rep W h (.str s t) (.str s)
  | list {a : Addr} {vs : List Value} {ds : List D} : h.PlainList a vs.toArray → a ∉ W → Reps W h vs ds → Rep W h (.ref a) (.list ds)
  | tuple {a : Addr} {vs : List Value} {ds : List D} : h.IsTuple a vs.toArray → a ∉ W → Reps W h vs ds → Rep W h (.ref a) (.tuple ds)
  | key {a c : Addr} {v : Value} {d : D} : KeyAt h a c v → a ∉ W → Rep W h v d → Rep W h (.ref a) (.key c d)
  | val (v : Value) : Rep W h v (.val v)
inductive Reps (W : List Addr) (h : Heap) : List Value → List D → Prop
  | nil : Reps W h [] []
  | cons {v : Value} {d : D} {vs : List Value} {ds : List D} : Rep W h v d → Reps W h vs ds → Reps W h (v :: vs) (d :: ds)
end

theorem Heap.IsList.map {h h' : Heap} {a : Addr} {vs : Array Value} (x : h.PlainList a vs) (k : ∀ o, h.get? a = some o → h'.get? a = some o) : h'.PlainList a vs := x.at k

mutual
theorem Rep.move {W W' : List Addr} {h h' : Heap} (k : ∀ a o, a ∉ W → h.get? a = some o → ((∃ xs n, o.data = .seq xs n) ∨ o.data = .plain) → h'.get? a = some o ∧ a ∉ W') :
    ∀ {v : Value} {d : D}, Rep W h v d → Rep W' h' v d
  | _, _, .nun => .nun
  | _, _, .bool b => .bool b
  | _, _, .int i t => .int i t
  | _, _, .str s t => .str s t
  | _, _, .list hl hw hr => by
    obtain ⟨n, e⟩ := hl
    obtain ⟨e', hw'⟩ := k _ _ hw e (.inl ⟨_, _, rfl⟩)
    exact .list ⟨n, e'⟩ hw' (Reps.move k hr)
  | _, _, .tuple hl hw hr => by
    obtain ⟨o, e, hc, n, hd⟩ := hl
    obtain ⟨e', hw'⟩ := k _ _ hw e (.inl ⟨_, _, hd⟩)
    exact .tuple ⟨o, e', hc, n, hd⟩ hw' (Reps.move k hr)
  | _, _, .key hl hw hr => by
    obtain ⟨o, e, hc, hd, r⟩ := hl
    obtain ⟨e', hw'⟩ := k _ _ hw e (.inr hd)
    exact .key ⟨o, e', hc, hd, r⟩ hw' (Rep.move k hr)
  | _, _, .val v => .val v
theorem Reps.move {W W' : List Addr} {h h' : Heap} (k : ∀ a o, a ∉ W → h.get? a = some o → ((∃ xs n, o.data = .seq xs n) ∨ o.data = .plain) → h'.get? a = some o ∧ a ∉ W') :
    ∀ {vs : List Value} {ds : List D}, Reps W h vs ds → Reps W' h' vs ds
  | _, _, .nil => .nil
  | _, _, .cons hv hr => .cons (Rep.move k hv) (Reps.move k hr)
end

theorem Rep.keep {W : List Addr} {h h' : Heap} {v : Value} {d : D} (x : Rep W h v d) (k : ∀ b o, h.get? b = some o → h'.get? b = some o) : Rep W h' v d :=
  x.move fun a o hw e _ => ⟨k a o e, hw⟩
theorem Reps.keep {W : List Addr} {h h' : Heap} {v : List Value} {d : List D} (x : Reps W h v d) (k : ∀ b o, h.get? b = some o → h'.get? b = some o) : Reps W h' v d :=
  x.move fun a o hw e _ => ⟨k a o e, hw⟩
theorem Rep.ext {W : List Addr} {h h' : Heap} {v : Value} {d : D} (x : Rep W h v d) (k : Ext [] h h') : Rep W h' v d := x.keep k.strict
theorem Reps.ext {W : List Addr} {h h' : Heap} {v : List Value} {d : List D} (x : Reps W h v d) (k : Ext [] h h') : Reps W h' v d := x.keep k.strict
theorem Rep.less {W W' : List Addr} {h : Heap} {v : Value} {d : D} (x : Rep W h v d) (k : ∀ a ∈ W', a ∈ W) : Rep W' h v d :=
  x.move fun a o hw e _ => ⟨e, fun z => hw (k a z)⟩
theorem Reps.less {W W' : List Addr} {h : Heap} {v : List Value} {d : List D} (x : Reps W h v d) (k : ∀ a ∈ W', a ∈ W) : Reps W' h v d :=
  x.move fun a o hw e _ => ⟨e, fun z => hw (k a z)⟩
/-- one more masked address, not there before -/
theorem Rep.mask {W : List Addr} {h h' : Heap} {v : Value} {d : D} {a : Addr} (x : Rep W h v d) (k : ∀ b o, h.get? b = some o → h'.get? b = some o) (ha : h.get? a = none) : Rep (a :: W) h' v d :=
  x.move fun b o hw e _ => ⟨k b o e, fun z => by
    rcases List.mem_cons.mp z with rfl | z
    · rw [ha] at e; cases e
    · exact hw z⟩
theorem Reps.mask {W : List Addr} {h h' : Heap} {v : List Value} {d : List D} {a : Addr} (x : Reps W h v d) (k : ∀ b o, h.get? b = some o → h'.get? b = some o) (ha : h.get? a = none) : Reps (a :: W) h' v d :=
  x.move fun b o hw e _ => ⟨k b o e, fun z => by
    rcases List.mem_cons.mp z with rfl | z
    · rw [ha] at e; cases e
    · exact hw z⟩
/-- what is no data at a -/
def NoData (h : Heap) (a : Addr) : Prop := ∀ o, h.get? a = some o → ¬ ((∃ xs n, o.data = .seq xs n) ∨ o.data = .plain)
theorem Rep.extBut {W : List Addr} {h h' : Heap} {v : Value} {d : D} {a : Addr} (x : Rep W h v d) (k : Heap.ExtBut a h h') (ha : a ∈ W ∨ NoData h a) : Rep W h' v d :=
  x.move fun b o hw e q => ⟨k b o (fun z => by
    subst z
    rcases ha with ha | ha
    · exact hw ha
    · exact ha o e q) e, hw⟩
theorem Reps.extBut {W : List Addr} {h h' : Heap} {v : List Value} {d : List D} {a : Addr} (x : Reps W h v d) (k : Heap.ExtBut a h h') (ha : a ∈ W ∨ NoData h a) : Reps W h' v d :=
  x.move fun b o hw e q => ⟨k b o (fun z => by
    subst z
    rcases ha with ha | ha
    · exact hw ha
    · exact ha o e q) e, hw⟩

theorem Reps.length {W : List Addr} {h : Heap} {vs : List Value} {ds : List D} (x : Reps W h vs ds) : vs.length = ds.length := by
  induction vs generalizing ds with
  | nil => cases x; rfl
  | cons v vs ih => cases x with | cons _ r => rw [List.length_cons, List.length_cons, ih r]
theorem Reps.append {W : List Addr} {h : Heap} {vs : List Value} {ds : List D} {us : List Value} {es : List D} (x : Reps W h vs ds) (y : Reps W h us es) : Reps W h (vs ++ us) (ds ++ es) := by
  induction vs generalizing ds with
  | nil => cases x; exact y
  | cons v vs ih => cases x with | cons a r => exact .cons a (ih r)
theorem Reps.get {W : List Addr} {h : Heap} {vs : List Value} {ds : List D} (x : Reps W h vs ds) {i : Nat} {d : D} (e : ds[i]? = some d) : ∃ v, vs[i]? = some v ∧ Rep W h v d := by
  induction vs generalizing ds i with
  | nil => cases x; cases e
  | cons v vs ih =>
    cases x with
    | cons a r =>
      cases i with
      | zero => cases e; exact ⟨v, rfl, a⟩
      | succ i => exact ih r (by simpa using e)
theorem Reps.take {W : List Addr} {h : Heap} {vs : List Value} {ds : List D} (x : Reps W h vs ds) (n : Nat) : Reps W h (vs.take n) (ds.take n) := by
  induction vs generalizing ds n with
  | nil => cases x; simp; exact .nil
  | cons v vs ih =>
    cases x with
    | cons a r =>
      cases n with
      | zero => exact .nil
      | succ n => exact .cons a (ih r n)
theorem Reps.drop {W : List Addr} {h : Heap} {vs : List Value} {ds : List D} (x : Reps W h vs ds) (n : Nat) : Reps W h (vs.drop n) (ds.drop n) := by
  induction vs generalizing ds n with
  | nil => cases x; simp; exact .nil
  | cons v vs ih =>
    cases x with
    | cons a r =>
      cases n with
      | zero => exact .cons a r
      | succ n => exact ih r n

/-- a list whose own address may be masked -/
def RepT (W : List Addr) (h : Heap) (v : Value) : D → Prop
  | .list ds => ∃ a vs, v = .ref a ∧ h.PlainList a vs.toArray ∧ Reps W h vs ds
  | d => Rep W h v d
theorem Rep.toT {W : List Addr} {h : Heap} {v : Value} {d : D} (x : Rep W h v d) : RepT W h v d := by
  cases d with
  | list ds => cases x with | list hl hw hr => exact ⟨_, _, rfl, hl, hr⟩
  | _ => exact x
theorem RepT.keep {W : List Addr} {h h' : Heap} {v : Value} {d : D} (x : RepT W h v d) (k : ∀ b o, h.get? b = some o → h'.get? b = some o) : RepT W h' v d := by
  cases d with
  | list ds =>
    obtain ⟨a, vs, rfl, hl, hr⟩ := x
    exact ⟨a, vs, rfl, Mine.Heap.IsList.map hl (k a), hr.keep k⟩
  | _ => exact Rep.keep x k
theorem RepT.ext {W : List Addr} {h h' : Heap} {v : Value} {d : D} (x : RepT W h v d) (k : Ext [] h h') : RepT W h' v d := x.keep k.strict

end Mine



namespace Mine
open PySem PyProof.Rows

structure Base where
  prog : Program
  w : World
  h₁ : Heap
  T : List Addr
  mg : Str → Option Value
  mb : Str → Option Value
  nsg : h₁.Ns mainGlobals mg
  nsb : h₁.Ns builtinsNs mb
  lim : h₁.NoLimit
  tg : mainGlobals ∉ T
  tb : builtinsNs ∉ T
  ts : cStatics ∉ T

structure Cx where
  B : Base
  A : Around
  env : Env
  sE : Shared
  n : Nat
  T : List Addr
  κ : List Str

def Cx.M (X : Cx) : Model := model X.B.prog X.B.w

structure Fine (X : Cx) : Prop where
  kind : X.env.scope.kind = .function
  globals : X.env.globals = mainGlobals
  builtins : X.env.builtins = builtinsNs
  start : Ext X.B.T X.B.h₁ X.sE.heap
  tsub : ∀ a ∈ X.T, a ∈ X.B.T
  kd : ∀ x ∈ X.κ, X.env.kindOf x = some .cell ∨ X.env.kindOf x = some .free
  hnd : X.A.handled = Option.none
  dep : X.A.depth + X.n < recursionLimit
  uni : X.A.units + 8 * X.n + 100 < cLine
  cells : ∀ x y c, X.env.cells.lookup x = some c → X.env.cells.lookup y = some c → x = y

inductive Ent where
  | un
  | val (rw : Bool) (d : D)
  | tmp (rw : Bool) (d : D)
  | own (a : Addr) (ns : List Int)
  | gl (v : Value)

abbrev Ent.rw : Ent → Bool
  | .un => true
  | .val b _ => b
  | .tmp b _ => b
  | .own _ _ => true
  | .gl _ => false
abbrev Ent.ro : Ent → Ent
  | .un => .val false .none
  | .val _ d => .val false d
  | .tmp _ d => .tmp false d
  | .own _ ns => .tmp false (.list (ns.map .int))
  | .gl v => .gl v

abbrev Ent.known : Ent → Bool
  | .un => false
  | .gl _ => false
  | _ => true

def EntOk (hE : Heap) (W : List Addr) (h : Heap) (ov : Option Value) : Ent → Prop
  | .un => True
  | .val _ d => ∃ v, ov = some v ∧ Rep W h v d
  | .tmp _ d => ∃ v, ov = some v ∧ RepT W h v d ∧ ∀ b, v = .ref b → ∃ o, hE.get? b = some o
  | .own a ns => ov = some (.ref a) ∧ a ∈ W ∧ hE.get? a = Option.none ∧ ∃ vs, h.PlainList a vs.toArray ∧ Reps W h vs (ns.map .int)
  | .gl _ => False

def GlobIs (B : Base) (x : Str) (v : Value) : Prop := B.mg x = some v ∨ (B.mg x = Option.none ∧ B.mb x = some v)

def Holds1 (h : Heap) (env : Env) (x : Str) (ov : Option Value) : Prop :=
  (env.kindOf x = some .local ∧ ∃ m, h.Ns env.locals m ∧ m x = ov) ∨
  ((env.kindOf x = some .cell ∨ env.kindOf x = some .free) ∧ ∃ c, env.cells.lookup x = some c ∧ h.IsCell c ov)

def Fresh1 (hE : Heap) (env : Env) (x : Str) : Prop :=
  (env.kindOf x = some .local → hE.get? env.locals = Option.none) ∧ env.kindOf x ≠ some .free ∧ (∀ c, env.kindOf x = some .cell → env.cells.lookup x = some c → hE.get? c = Option.none)

def EntryOk (X : Cx) (W : List Addr) (h : Heap) (p : Str × Ent) : Prop :=
  (∃ v, p.2 = .gl v ∧ X.env.kindOf p.1 = some .globalImplicit ∧ GlobIs X.B p.1 v) ∨
  ((∃ ov, Holds1 h X.env p.1 ov ∧ EntOk X.sE.heap W h ov p.2) ∧ (p.2.rw = true → Fresh1 X.sE.heap X.env p.1))

structure Ok (X : Cx) (W : List Addr) (ρ : List (Str × Ent)) (s : Shared) : Prop where
  ext : SExt X.T X.sE s
  nd : (ρ.map (·.1)).Nodup
  ent : ∀ p ∈ ρ, EntryOk X W s.heap p
  own : ∀ p ∈ ρ, ∀ q ∈ ρ, ∀ a ns b ms, p.2 = .own a ns → q.2 = .own b ms → p.1 ≠ q.1 → a ≠ b
  wal : ∀ a ∈ W, ∃ o, s.heap.get? a = some o

theorem EntOk.keep {hE : Heap} {W : List Addr} {h h' : Heap} {ov : Option Value} {e : Ent} (x : EntOk hE W h ov e) (k : ∀ b o, h.get? b = some o → h'.get? b = some o) : EntOk hE W h' ov e := by
  cases e with
  | un => trivial
  | val _ d => obtain ⟨v, e, r⟩ := x; exact ⟨v, e, r.keep k⟩
  | tmp _ d => obtain ⟨v, e, r, z⟩ := x; exact ⟨v, e, r.keep k, z⟩
  | own a ns => obtain ⟨e, w, f, vs, l, r⟩ := x; exact ⟨e, w, f, vs, Mine.Heap.IsList.map l (k a), r.keep k⟩
  | gl v => cases x
theorem Holds1.keep {h h' : Heap} {env : Env} {x : Str} {ov : Option Value} (y : Holds1 h env x ov) (k : ∀ b o, h.get? b = some o → h'.get? b = some o) : Holds1 h' env x ov := by
  rcases y with ⟨a, m, n, e⟩ | ⟨a, c, e, n⟩
  · exact .inl ⟨a, m, n.keeps k, e⟩
  · exact .inr ⟨a, c, e, n.keeps k⟩
theorem Ok.mono {X : Cx} {W : List Addr} {ρ : List (Str × Ent)} {s s' : Shared} (x : Ok X W ρ s) (k : SExt [] s s') : Ok X W ρ s' := by
  refine ⟨x.ext.trans k.wider, x.nd, fun p hp => ?_, x.own, fun a ha => let ⟨o, e⟩ := x.wal a ha; ⟨o, k.ext.strict a o e⟩⟩
  rcases x.ent p hp with g | ⟨⟨ov, a, b⟩, c⟩
  · exact .inl g
  · exact .inr ⟨⟨ov, a.keep k.ext.strict, b.keep k.ext.strict⟩, c⟩
theorem Ok.base {X : Cx} {W : List Addr} {ρ : List (Str × Ent)} {s : Shared} (F : Fine X) (x : Ok X W ρ s) : Ext X.B.T X.B.h₁ s.heap := F.start.trans (x.ext.ext.more F.tsub)

theorem ns_ext {T : List Addr} {h h' : Heap} {a : Addr} {m : Str → Option Value} (x : Ext T h h') (n : h.Ns a m) (ha : a ∉ T) : h'.Ns a m :=
  let ⟨o, es, ep, e, r⟩ := n; ⟨o, es, ep, x.keep _ _ ha e, r⟩
theorem Ok.nsg {X : Cx} {W : List Addr} {ρ : List (Str × Ent)} {s : Shared} (F : Fine X) (x : Ok X W ρ s) : s.heap.Ns mainGlobals X.B.mg := ns_ext (x.base F) X.B.nsg X.B.tg
theorem Ok.nsb {X : Cx} {W : List Addr} {ρ : List (Str × Ent)} {s : Shared} (F : Fine X) (x : Ok X W ρ s) : s.heap.Ns builtinsNs X.B.mb := ns_ext (x.base F) X.B.nsb X.B.tb
theorem Ok.lim {X : Cx} {W : List Addr} {ρ : List (Str × Ent)} {s : Shared} (F : Fine X) (x : Ok X W ρ s) : s.heap.NoLimit := by
  obtain ⟨mc, n, e⟩ := X.B.lim
  exact ⟨mc, ns_ext (x.base F) n X.B.ts, e⟩

inductive Lv where
  | t | s | f
def Post (l : Lv) (W : List Addr) (h : Heap) (v : Value) (h' : Heap) (d : D) : Prop := match l with
  | .t => RepT W h' v d
  | .s => Rep W h' v d
  | .f => Rep W h' v d ∧ ∀ a, v = .ref a → h.get? a = Option.none

abbrev NoE : Value → Shared → Prop := fun _ _ => False

def Ev (X : Cx) (W : List Addr) (ρ : List (Str × Ent)) (l : Lv) (e : Expr) (d : D) : Prop :=
  ∀ s, Ok X W ρ s → wpAny X.M X.A (eval e X.env) (fun v s' => SExt [] s s' ∧ Post l W s.heap v s'.heap d) NoE s

section
variable {X : Cx} {W : List Addr} {ρ : List (Str × Ent)}
theorem Post.toT {l : Lv} {h h' : Heap} {v : Value} {d : D} (x : Post l W h v h' d) : RepT W h' v d := by
  cases l with
  | t => exact x
  | s => exact Rep.toT x
  | f => exact Rep.toT x.1
theorem Ev.toT {l : Lv} {e : Expr} {d : D} (x : Ev X W ρ l e d) : Ev X W ρ .t e d := fun s hs => wpAny_mono (x s hs) (fun v s' h => ⟨h.1, h.2.toT⟩) fun _ _ h => h
theorem Ev.toS {e : Expr} {d : D} (x : Ev X W ρ .f e d) : Ev X W ρ .s e d := fun s hs => wpAny_mono (x s hs) (fun v s' h => ⟨h.1, h.2.1⟩) fun _ _ h => h
/-- what is no list, tuple or key -/
def D.flat : D → Bool
  | .none | .bool _ | .int _ | .str _ => true
  | _ => false
theorem Ev.flat {l l' : Lv} {e : Expr} {d : D} (x : Ev X W ρ l e d) (hd : d.flat = true := by rfl) : Ev X W ρ l' e d := fun s hs => wpAny_mono (x s hs) (fun v s' h => ⟨h.1, by
  have r : Rep W s'.heap v d := by
    have := h.2.toT
    cases d <;> first | exact this | cases hd
  cases l' with
  | t => exact r.toT
  | s => exact r
  | f => exact ⟨r, fun a e => by subst e; cases r <;> cases hd⟩⟩) fun _ _ h => h

theorem Ev.cast {l : Lv} {e : Expr} {d d' : D} (x : Ev X W ρ l e d) (h : d = d') : Ev X W ρ l e d' := h ▸ x
theorem ev_mk {l : Lv} {e : Expr} {d : D} (h : ∀ s, Ok X W ρ s → wpAny X.M X.A (eval e X.env) (fun v s' => SExt [] s s' ∧ Post l W s.heap v s'.heap d) NoE s) : Ev X W ρ l e d := h

theorem sext_toks {T : List Addr} (s : Shared) (n : Nat) : SExt T s { s with toks := n } := ⟨.refl .., rfl, rfl⟩
theorem sext_push {T : List Addr} (s : Shared) (o : Obj) : SExt T s { s with heap := s.heap.push o } := ⟨(Ext.refl ..).push o, rfl, rfl⟩
theorem sext_keep {T : List Addr} (s : Shared) (h : Heap) (n : Nat) (k : ∀ b o, s.heap.get? b = some o → h.get? b = some o) : SExt T s { s with heap := h, toks := n } := ⟨.of_keep k, rfl, rfl⟩

theorem ev_int {i : Int} {k : Nat} {pos : Pos} : Ev X W ρ .f (.Constant (.int i) k pos) (.int i) := fun s hs =>
  wpAny_Constant_int ⟨sext_toks _ _, .int _ _, fun _ e => by cases e⟩
theorem ev_bool {b : Bool} {k : Nat} {pos : Pos} : Ev X W ρ .f (.Constant (.bool b) k pos) (.bool b) := fun s hs =>
  wpAny_Constant_bool ⟨SExt.refl .., .bool _, fun _ e => by cases e⟩
theorem ev_none {k : Nat} {pos : Pos} : Ev X W ρ .f (.Constant .none k pos) .none := fun s hs =>
  wpAny_Constant_none ⟨SExt.refl .., .nun, fun _ e => by cases e⟩
theorem ev_str {x : Str} {k : Nat} {pos : Pos} : Ev X W ρ .f (.Constant (.str x) k pos) (.str x) := fun s hs =>
  wpAny_Constant_str ⟨sext_toks _ _, .str _ _, fun _ e => by cases e⟩

theorem load1 {env : Env} {x : Str} {v : Value} {M : Model} {A : Around} {E : Value → Shared → Prop} {Q : Value → Shared → Prop} {s : Shared} (hk : env.scope.kind = .function) (h : Holds1 s.heap env x (some v)) (q : Q v s) (hx : (x == ("__classdict__" : Str)) = false) :
    wpAny M A (loadName env x) Q E s := by
  rcases h with ⟨a, m, n, e⟩ | ⟨a | a, c, e, n⟩
  · exact wpAny_loadName_local hk a n e q
  · exact wpAny_loadName_cell hk a e n q
  · exact wpAny_loadName_free hk a e n q hx

/-- a name that may be read -/
def okName (x : Str) : Bool := !(x == ("__debug__" : Str)) && !(x == ("__classdict__" : Str))
theorem okName_d {x : Str} (h : okName x = true) : (x == ("__debug__" : Str)) = false ∧ (x == ("__classdict__" : Str)) = false := by
  unfold okName at h
  simp only [Bool.and_eq_true, Bool.not_eq_true'] at h
  exact h

theorem ev_val {x : Str} {pos : Pos} {b : Bool} {d : D} (F : Fine X) (hm : (x, Ent.val b d) ∈ ρ) (hx : okName x = true := by decide +kernel) : Ev X W ρ .s (.Name x pos) d := fun s hs => by
  obtain ⟨_, z, _⟩ | ⟨⟨ov, h1, v, rfl, r⟩, _⟩ := hs.ent _ hm
  · cases z
  exact wpAny_Name (load1 F.kind h1 ⟨SExt.refl .., r⟩ (okName_d hx).2) (okName_d hx).1
theorem ev_tmp {x : Str} {pos : Pos} {b : Bool} {d : D} (F : Fine X) (hm : (x, Ent.tmp b d) ∈ ρ) (hx : okName x = true := by decide +kernel) : Ev X W ρ .t (.Name x pos) d := fun s hs => by
  obtain ⟨_, z, _⟩ | ⟨⟨ov, h1, v, rfl, r, _⟩, _⟩ := hs.ent _ hm
  · cases z
  exact wpAny_Name (load1 F.kind h1 ⟨SExt.refl .., r⟩ (okName_d hx).2) (okName_d hx).1
theorem ev_own {x : Str} {pos : Pos} {a : Addr} {ns : List Int} (F : Fine X) (hm : (x, Ent.own a ns) ∈ ρ) (hx : okName x = true := by decide +kernel) : Ev X W ρ .t (.Name x pos) (.list (ns.map .int)) := fun s hs => by
  obtain ⟨_, z, _⟩ | ⟨⟨ov, h1, rfl, _, _, vs, hl, r⟩, _⟩ := hs.ent _ hm
  · cases z
  exact wpAny_Name (load1 F.kind h1 ⟨SExt.refl .., a, vs, rfl, hl, r⟩ (okName_d hx).2) (okName_d hx).1
theorem ev_gl {x : Str} {pos : Pos} {v : Value} (F : Fine X) (hm : (x, Ent.gl v) ∈ ρ) (hx : okName x = true := by decide +kernel) : Ev X W ρ .s (.Name x pos) (.val v) := fun s hs => by
  obtain ⟨v', z, hk, hg⟩ | ⟨⟨ov, _, z⟩, _⟩ := hs.ent _ hm
  · cases z
    have n := hs.nsg F
    rw [← F.globals] at n
    have m := hs.nsb F
    rw [← F.builtins] at m
    rcases hg with hv | ⟨hg, hv⟩
    · exact Calls.Name_function_global F.kind hk (Calls.loadGlobal_global n hv ⟨SExt.refl .., .val v⟩) (okName_d hx).1
    · exact Calls.Name_function_global F.kind hk (Calls.loadGlobal_builtin n hg m hv ⟨SExt.refl .., .val v⟩) (okName_d hx).1
  · cases z

/-- two parts one after the other -/
theorem ev_two {f : Value → Value → Sem Value} {l₁ l₂ : Lv} {e₁ e₂ : Expr} {d₁ d₂ : D} {s : Shared} {Q : Value → Shared → Prop} (h₁ : Ev X W ρ l₁ e₁ d₁) (h₂ : Ev X W ρ l₂ e₂ d₂) (hs : Ok X W ρ s)
    (q : ∀ a b s', SExt [] s s' → RepT W s'.heap a d₁ → RepT W s'.heap b d₂ → wpAny X.M X.A (f a b) Q NoE s') :
    wpAny X.M X.A (eval e₁ X.env) (fun a s₁ => wpAny X.M X.A (eval e₂ X.env) (fun b s₂ => wpAny X.M X.A (f a b) Q NoE s₂) NoE s₁) NoE s :=
  wpAny_mono (h₁ s hs) (fun a s₁ k₁ => wpAny_mono (h₂ s₁ (hs.mono k₁.1)) (fun b s₂ k₂ => q a b s₂ (k₁.1.trans k₂.1) (k₁.2.toT.ext k₂.1.ext) k₂.2.toT) fun _ _ h => h) fun _ _ h => h

theorem repT_int {h : Heap} {v : Value} {i : Int} (x : RepT W h v (.int i)) : ∃ t, v = .int i t := by
  have y : Rep W h v (.int i) := x
  cases y with | int _ t => exact ⟨t, rfl⟩
theorem repT_bool {h : Heap} {v : Value} {b : Bool} (x : RepT W h v (.bool b)) : v = .bool b := by
  have y : Rep W h v (.bool b) := x
  cases y with | bool _ => rfl
theorem repT_str {h : Heap} {v : Value} {b : Str} (x : RepT W h v (.str b)) : ∃ t, v = .str b t := by
  have y : Rep W h v (.str b) := x
  cases y with | str _ t => exact ⟨t, rfl⟩
end

section
variable {X : Cx} {W : List Addr} {ρ : List (Str × Ent)} {l₁ l₂ : Lv} {e₁ e₂ : Expr} {a b : Int} {pos : Pos}

theorem ev_binint {op : Operator} {r : Int} (h₁ : Ev X W ρ l₁ e₁ (.int a)) (h₂ : Ev X W ρ l₂ e₂ (.int b))
    (h : ∀ (Q : Value → Shared → Prop) (s : Shared) (t u : Tok), (∀ tk tk', Q (.int r tk) { s with toks := tk' }) → wpAny X.M X.A (binaryOp op (.int a t) (.int b u)) Q NoE s) : Ev X W ρ .f (.BinOp e₁ op e₂ pos) (.int r) := fun s hs => by
  refine wpAny_BinOp (ev_two (f := fun a b => binaryOp op a b) h₁ h₂ hs fun va vb s' k ra rb => ?_)
  obtain ⟨t, rfl⟩ := repT_int ra
  obtain ⟨u, rfl⟩ := repT_int rb
  exact h _ _ _ _ fun tk tk' => ⟨k.trans (sext_toks _ _), .int _ _, fun _ e => by cases e⟩
theorem ev_add (h₁ : Ev X W ρ l₁ e₁ (.int a)) (h₂ : Ev X W ρ l₂ e₂ (.int b)) : Ev X W ρ .f (.BinOp e₁ .Add e₂ pos) (.int (a + b)) :=
  ev_binint h₁ h₂ fun Q s t u q => add_int (q _ _)
theorem ev_sub (h₁ : Ev X W ρ l₁ e₁ (.int a)) (h₂ : Ev X W ρ l₂ e₂ (.int b)) : Ev X W ρ .f (.BinOp e₁ .Sub e₂ pos) (.int (a - b)) :=
  ev_binint h₁ h₂ fun Q s t u q => sub_int (q _ _)
theorem ev_mod (h₁ : Ev X W ρ l₁ e₁ (.int a)) (h₂ : Ev X W ρ l₂ e₂ (.int b)) (hb : b ≠ 0) : Ev X W ρ .f (.BinOp e₁ .Mod e₂ pos) (.int (a.fmod b)) :=
  ev_binint h₁ h₂ fun Q s t u q => mod_int hb (q _ _)
theorem ev_fdiv (h₁ : Ev X W ρ l₁ e₁ (.int a)) (h₂ : Ev X W ρ l₂ e₂ (.int b)) (hb : b ≠ 0) (hz : b.natAbs < 1073741824) : Ev X W ρ .f (.BinOp e₁ .FloorDiv e₂ pos) (.int (a.fdiv b)) :=
  ev_binint h₁ h₂ fun Q s t u q => floordiv_int hb (q _ _) (.inl (PyProof.noPylong_small hz))
theorem ev_and (h₁ : Ev X W ρ l₁ e₁ (.int a)) (h₂ : Ev X W ρ l₂ e₂ (.int b)) : Ev X W ρ .f (.BinOp e₁ .BitAnd e₂ pos) (.int (Builtin.bitAnd a b)) :=
  ev_binint h₁ h₂ fun Q s t u q => and_int (q _ _)
theorem ev_or (h₁ : Ev X W ρ l₁ e₁ (.int a)) (h₂ : Ev X W ρ l₂ e₂ (.int b)) : Ev X W ρ .f (.BinOp e₁ .BitOr e₂ pos) (.int (Builtin.bitOr a b)) :=
  ev_binint h₁ h₂ fun Q s t u q => or_int (q _ _)
theorem ev_shr (h₁ : Ev X W ρ l₁ e₁ (.int a)) (h₂ : Ev X W ρ l₂ e₂ (.int b)) (hb : 0 ≤ b) : Ev X W ρ .f (.BinOp e₁ .RShift e₂ pos) (.int (a.fdiv (2 ^ b.toNat))) :=
  ev_binint h₁ h₂ fun Q s t u q => rshift_int hb (q _ _)
theorem ev_mul (h₁ : Ev X W ρ l₁ e₁ (.int a)) (h₂ : Ev X W ρ l₂ e₂ (.int b)) (hm : IntMulOk a b) : Ev X W ρ .f (.BinOp e₁ .Mult e₂ pos) (.int (a * b)) :=
  ev_binint h₁ h₂ fun Q s t u q => mul_int (q _ _) hm
theorem ev_pow (h₁ : Ev X W ρ l₁ e₁ (.int a)) (h₂ : Ev X W ρ l₂ e₂ (.int b)) (hb : 0 ≤ b) (hsz : (Builtin.Int.intBits a : Int) * b ≤ 2 ^ 27) : Ev X W ρ .f (.BinOp e₁ .Pow e₂ pos) (.int (a ^ b.toNat)) :=
  ev_binint h₁ h₂ fun Q s t u q => pow_int hb hsz (q _ _)
theorem ev_neg (h₁ : Ev X W ρ l₁ e₁ (.int a)) : Ev X W ρ .f (.UnaryOp .USub e₁ pos) (.int (-a)) := fun s hs =>
  wpAny_UnaryOp (wpAny_mono (h₁ s hs) (fun v s' k => by
    obtain ⟨t, rfl⟩ := repT_int k.2.toT
    exact neg_int ⟨k.1.trans (sext_toks _ _), .int _ _, fun _ e => by cases e⟩) fun _ _ h => h)

/-- what a comparison gives -/
def CmpV (X : Cx) (W : List Addr) (op : CmpOp) (d₁ d₂ : D) (c : Bool) : Prop :=
  ∀ (s : Shared) (va vb : Value), (∀ ρ, Fine X → Ok X W ρ s → RepT W s.heap va d₁ → RepT W s.heap vb d₂ → wpAny X.M X.A (compareOp op va vb) (fun v s' => SExt [] s s' ∧ v = .bool c) NoE s)
theorem cmp_int {op : CmpOp} {c : Bool} (h : ∀ (Q : Value → Shared → Prop) (s : Shared) (t u : Tok), Q (.bool c) s → wpAny X.M X.A (compareOp op (.int a t) (.int b u)) Q NoE s) : CmpV X W op (.int a) (.int b) c := by
  intro s va vb ρ F hs ra rb
  obtain ⟨t, rfl⟩ := repT_int ra
  obtain ⟨u, rfl⟩ := repT_int rb
  exact h _ _ _ _ ⟨.refl .., rfl⟩
theorem cmp_lt : CmpV X W .Lt (.int a) (.int b) (decide (a < b)) := cmp_int fun Q s t u q => lt_int q
theorem cmp_gt : CmpV X W .Gt (.int a) (.int b) (decide (b < a)) := cmp_int fun Q s t u q => gt_int q
theorem cmp_le : CmpV X W .LtE (.int a) (.int b) (decide (a ≤ b)) := cmp_int fun Q s t u q => le_int q
theorem cmp_ge : CmpV X W .GtE (.int a) (.int b) (decide (b ≤ a)) := cmp_int fun Q s t u q => ge_int q
theorem cmp_eq : CmpV X W .Eq (.int a) (.int b) (a == b) := cmp_int fun Q s t u q => eq_int q
theorem cmp_ne : CmpV X W .NotEq (.int a) (.int b) (a != b) := cmp_int fun Q s t u q => ne_int q

theorem ev_cmp {op : CmpOp} {d₁ d₂ : D} {c : Bool} (F : Fine X) (h₁ : Ev X W ρ l₁ e₁ d₁) (h₂ : Ev X W ρ l₂ e₂ d₂) (h : CmpV X W op d₁ d₂ c) (hm : behindInMarks op e₂ = false := by with_unfolding_all rfl) :
    Ev X W ρ .f (.Compare e₁ [op] [e₂] pos) (.bool c) := fun s hs => by
  refine wpAny_Compare1 (ev_two (f := fun a b => compareOp op a b) h₁ h₂ hs fun va vb s' k ra rb => ?_) hm
  exact wpAny_mono (h s' va vb ρ F (hs.mono k) ra rb) (fun v s'' q => ⟨k.trans q.1, by rw [q.2]; exact .bool c, fun _ e => by rw [q.2] at e; cases e⟩) fun _ _ h => h
end

/-- the truth of a test -/
def Tst (X : Cx) (W : List Addr) (ρ : List (Str × Ent)) (e : Expr) (c : Bool) : Prop :=
  ∀ s, Ok X W ρ s → wpAny X.M X.A (isTrue e X.env (eval e X.env)) (fun v s' => SExt [] s s' ∧ v = c) NoE s

section
variable {X : Cx} {W : List Addr} {ρ : List (Str × Ent)} {l l₁ l₂ : Lv} {e e₁ e₂ : Expr} {pos : Pos} {c c' : Bool}
theorem tst_cmp {op : CmpOp} {d₁ d₂ : D} (F : Fine X) (h₁ : Ev X W ρ l₁ e₁ d₁) (h₂ : Ev X W ρ l₂ e₂ d₂) (h : CmpV X W op d₁ d₂ c) (hm : behindInMarks op e₂ = false := by with_unfolding_all rfl) :
    Tst X W ρ (.Compare e₁ [op] [e₂] pos) c := fun s hs => by
  refine wpAny_isTrue_Compare1 (wpAny_mono (h₁ s hs) (fun a s₁ k₁ => wpAny_mono (h₂ s₁ (hs.mono k₁.1)) (fun b s₂ k₂ => ?_) fun _ _ h => h) fun _ _ h => h) hm
  refine wpAny_mono (h s₂ a b ρ F (hs.mono (k₁.1.trans k₂.1)) (k₁.2.toT.ext k₂.1.ext) k₂.2.toT) (fun v s'' q => ?_) fun _ _ h => h
  rw [q.2]
  exact wpAny_truthy_bool ⟨(k₁.1.trans k₂.1).trans q.1, rfl⟩
theorem tst_bool (h : Ev X W ρ l e (.bool c)) (he : ∀ (env : Env) (whole : Sem Value), isTrue e env whole = (do let v ← whole; standAt e.pos; holding [v] (truthy v)) := by intros; rfl) : Tst X W ρ e c := fun s hs => by
  refine wpAny_isTrue_value (wpAny_mono (h s hs) (fun v s₁ k => ?_) fun _ _ h => h) (he _ _)
  rw [repT_bool k.2.toT]
  exact wpAny_truthy_bool ⟨k.1, rfl⟩
theorem tst_not (h : Tst X W ρ e c) : Tst X W ρ (.UnaryOp .Not e pos) (!c) := fun s hs =>
  wpAny_isTrue_Not (wpAny_mono (h s hs) (fun b s₁ k => ⟨k.1, by rw [k.2]⟩) fun _ _ h => h)
/-- and: the right side is asked only where the left holds -/
theorem tst_and (h : Tst X W ρ e₁ c) (h' : c = true → Tst X W ρ e₂ c') : Tst X W ρ (.BoolOp .And [e₁, e₂] pos) (c && c') := fun s hs => by
  refine wpAny_isTrue_BoolOp (wpAny_allTrue_And_cons (wpAny_mono (h s hs) (fun b s₁ k => ?_) fun _ _ h => h))
  obtain ⟨k, rfl⟩ := k
  cases b with
  | false => exact ⟨k, rfl⟩
  | true =>
    refine wpAny_allTrue_And_cons (wpAny_mono (h' rfl s₁ (hs.mono k)) (fun b s₂ k' => ?_) fun _ _ h => h)
    obtain ⟨k', rfl⟩ := k'
    cases b with
    | false => exact ⟨k.trans k', rfl⟩
    | true => exact wpAny_allTrue_And_nil ⟨k.trans k', rfl⟩
theorem tst_or (h : Tst X W ρ e₁ c) (h' : c = false → Tst X W ρ e₂ c') : Tst X W ρ (.BoolOp .Or [e₁, e₂] pos) (c || c') := fun s hs => by
  refine wpAny_isTrue_BoolOp (wpAny_allTrue_Or_cons (wpAny_mono (h s hs) (fun b s₁ k => ?_) fun _ _ h => h))
  obtain ⟨k, rfl⟩ := k
  cases b with
  | true => exact ⟨k, rfl⟩
  | false =>
    refine wpAny_allTrue_Or_cons (wpAny_mono (h' rfl s₁ (hs.mono k)) (fun b s₂ k' => ?_) fun _ _ h => h)
    obtain ⟨k', rfl⟩ := k'
    cases b with
    | true => exact ⟨k.trans k', rfl⟩
    | false => exact wpAny_allTrue_Or_nil ⟨k.trans k', rfl⟩

theorem ev_ifexp {e₃ : Expr} {d : D} (h : Tst X W ρ e c) (ht : c = true → Ev X W ρ l e₁ d) (hf : c = false → Ev X W ρ l e₂ d) : Ev X W ρ l (.IfExp e e₁ e₂ pos) d := fun s hs => by
  refine wpAny_IfExp (wpAny_mono (h s hs) (fun b s₁ k => ?_) fun _ _ h => h)
  obtain ⟨k, rfl⟩ := k
  have fin : ∀ {e' : Expr}, Ev X W ρ l e' d → wpAny X.M X.A (eval e' X.env) (fun v s' => SExt [] s s' ∧ Post l W s.heap v s'.heap d) NoE s₁ := fun h' =>
    wpAny_mono (h' s₁ (hs.mono k)) (fun v s' q => ⟨k.trans q.1, by
      cases l with
      | t => exact q.2
      | s => exact q.2
      | f => exact ⟨q.2.1, fun a e => k.ext.fresh (q.2.2 a e)⟩⟩) fun _ _ h => h
  cases b with
  | true => exact fin (ht rfl)
  | false => exact fin (hf rfl)
end
end Mine



namespace Mine
open PySem PyProof.Rows

inductive RepTs (W : List Addr) (h : Heap) : List Value → List D → Prop
  | nil : RepTs W h [] []
  | cons {v : Value} {d : D} {vs : List Value} {ds : List D} : RepT W h v d → RepTs W h vs ds → RepTs W h (v :: vs) (d :: ds)
theorem RepTs.keep {W : List Addr} {h h' : Heap} {vs : List Value} {ds : List D} (x : RepTs W h vs ds) (k : ∀ b o, h.get? b = some o → h'.get? b = some o) : RepTs W h' vs ds := by
  induction x with
  | nil => exact .nil
  | cons a _ ih => exact .cons (a.keep k) ih
theorem RepTs.ext {W : List Addr} {h h' : Heap} {vs : List Value} {ds : List D} (x : RepTs W h vs ds) (k : Ext [] h h') : RepTs W h' vs ds := x.keep k.strict
theorem Reps.toT {W : List Addr} {h : Heap} {vs : List Value} {ds : List D} (x : Reps W h vs ds) : RepTs W h vs ds := by
  induction vs generalizing ds with
  | nil => cases x; exact .nil
  | cons v vs ih => cases x with | cons a r => exact .cons a.toT (ih r)

section
variable {X : Cx} {W : List Addr} {ρ : List (Str × Ent)}

/-- several parts, kept -/
def Evs (X : Cx) (W : List Addr) (ρ : List (Str × Ent)) (es : List Expr) (ds : List D) : Prop :=
  ∀ (pos : Pos) s, Ok X W ρ s → wpAny X.M X.A (spliced (backTo pos (starEach es X.env))) (fun vs s' => SExt [] s s' ∧ Reps W s'.heap vs ds) NoE s
def EvTs (X : Cx) (W : List Addr) (ρ : List (Str × Ent)) (es : List Expr) (ds : List D) : Prop :=
  ∀ (pos : Pos) s, Ok X W ρ s → wpAny X.M X.A (spliced (backTo pos (starEach es X.env))) (fun vs s' => SExt [] s s' ∧ RepTs W s'.heap vs ds) NoE s
theorem evs_nil : Evs X W ρ [] [] := fun pos s hs => wpAny_items_nil ⟨.refl .., .nil⟩
theorem evs_cons {e : Expr} {es : List Expr} {d : D} {ds : List D} (h : Ev X W ρ .s e d) (h' : Evs X W ρ es ds) (he : starEach (e :: es) X.env = (false, eval e X.env) :: starEach es X.env := by rfl) : Evs X W ρ (e :: es) (d :: ds) := fun pos s hs =>
  wpAny_items_cons (wpAny_mono (h s hs) (fun v s₁ k => wpAny_mono (h' pos s₁ (hs.mono k.1)) (fun vs s₂ k' => ⟨k.1.trans k'.1, .cons (Rep.ext k.2 k'.1.ext) k'.2⟩) fun _ _ x => x) fun _ _ x => x) he
theorem evTs_nil : EvTs X W ρ [] [] := fun pos s hs => wpAny_items_nil ⟨.refl .., .nil⟩
theorem evTs_cons {l : Lv} {e : Expr} {es : List Expr} {d : D} {ds : List D} (h : Ev X W ρ l e d) (h' : EvTs X W ρ es ds) (he : starEach (e :: es) X.env = (false, eval e X.env) :: starEach es X.env := by rfl) : EvTs X W ρ (e :: es) (d :: ds) := fun pos s hs =>
  wpAny_items_cons (wpAny_mono (h s hs) (fun v s₁ k => wpAny_mono (h' pos s₁ (hs.mono k.1)) (fun vs s₂ k' => ⟨k.1.trans k'.1, .cons (k.2.toT.ext k'.1.ext) k'.2⟩) fun _ _ x => x) fun _ _ x => x) he

/-- a new list -/
theorem new_list {s₀ s : Shared} {vs : List Value} {ds : List D} (hs : Ok X W ρ s₀) (k : SExt [] s₀ s) (r : Reps W s.heap vs ds) :
    SExt [] s₀ { s with heap := s.heap.push { cls := .type "list", data := .seq vs.toArray } } ∧
    Post .f W s₀.heap (.ref s.heap.objs.size) (s.heap.push { cls := .type "list", data := .seq vs.toArray }) (.list ds) := by
  have k' := k.trans (sext_push (T := []) s { cls := .type "list", data := .seq vs.toArray })
  have fr : s.heap.get? s.heap.objs.size = Option.none := get_size _
  refine ⟨k', .list ⟨_, Heap.get?_push_size _ rfl⟩ (fun hw => ?_) (r.keep fun b o e => Heap.get?_push_of_some _ e), fun a e => ?_⟩
  · obtain ⟨o, e⟩ := hs.wal _ hw
    have := k.ext.strict _ _ e
    rw [fr] at this; cases this
  · cases e
    exact k.ext.fresh fr
theorem new_tuple {s₀ s : Shared} {vs : List Value} {ds : List D} (hs : Ok X W ρ s₀) (k : SExt [] s₀ s) (r : Reps W s.heap vs ds) :
    SExt [] s₀ { s with heap := s.heap.push { cls := .type "tuple", data := .seq vs.toArray } } ∧
    Post .f W s₀.heap (.ref s.heap.objs.size) (s.heap.push { cls := .type "tuple", data := .seq vs.toArray }) (.tuple ds) := by
  have k' := k.trans (sext_push (T := []) s { cls := .type "tuple", data := .seq vs.toArray })
  have fr : s.heap.get? s.heap.objs.size = Option.none := get_size _
  refine ⟨k', .tuple ⟨_, Heap.get?_push_size _ rfl, rfl, _, rfl⟩ (fun hw => ?_) (r.keep fun b o e => Heap.get?_push_of_some _ e), fun a e => ?_⟩
  · obtain ⟨o, e⟩ := hs.wal _ hw
    have := k.ext.strict _ _ e
    rw [fr] at this; cases this
  · cases e
    exact k.ext.fresh fr

theorem ev_list {es : List Expr} {ds : List D} {pos : Pos} (h : Evs X W ρ es ds) (hz : ds.length ≤ 1000 := by first | decide | simp) : Ev X W ρ .f (.List es pos) (.list ds) := fun s hs => by
  refine wpAny_List (wpAny_mono (h pos s hs) (fun vs s₁ k => ⟨?_, new_list hs k.1 k.2⟩) fun _ _ x => x)
  rw [k.2.length, sizeLine_eq]; omega
theorem ev_tuple {es : List Expr} {ds : List D} {k : Nat} {pos : Pos} (h : Evs X W ρ es ds) (hz : ds.length ≤ 1000 := by first | decide | simp) : Ev X W ρ .f (.Tuple es k pos) (.tuple ds) := fun s hs => by
  refine wpAny_Tuple (wpAny_mono (h pos s hs) (fun vs s₁ k => ⟨?_, new_tuple hs k.1 k.2⟩) fun _ _ x => x)
  rw [k.2.length, sizeLine_eq]; omega

/-- lists joined -/
theorem ev_cat {l₁ l₂ : Lv} {e₁ e₂ : Expr} {as bs : List D} {pos : Pos} (h₁ : Ev X W ρ l₁ e₁ (.list as)) (h₂ : Ev X W ρ l₂ e₂ (.list bs)) (hz : as.length + bs.length ≤ 1000000) : Ev X W ρ .f (.BinOp e₁ .Add e₂ pos) (.list (as ++ bs)) := fun s hs => by
  refine wpAny_BinOp (ev_two (f := fun a b => binaryOp .Add a b) h₁ h₂ hs fun va vb s' k ra rb => ?_)
  obtain ⟨l, vs, rfl, hl, r₁⟩ := ra
  obtain ⟨b, ws, rfl, hb, r₂⟩ := rb
  have hsz : vs.length + ws.length ≤ sizeLine := by rw [r₁.length, r₂.length, sizeLine_eq]; omega
  obtain ⟨⟨cls, dd, data, sl⟩, ho, hc, n, hd⟩ := hl.isList
  obtain ⟨⟨cls2, dd2, data2, sl2⟩, ho2, hc2, n2, hd2⟩ := hb.isList
  simp only at hc hd hc2 hd2
  subst hc hd hc2 hd2
  have e : vs.toArray ++ ws.toArray = (vs ++ ws).toArray := by simp
  refine concat_meets ⟨_, ho, rfl⟩ ⟨_, ho2, rfl⟩ noFill_list_add seq_list_add PySem.F.slot_list_add PySem.F.entry_list_add (PySem.F.args_list_add_2 _ _) (list_addW l b vs.toArray ws.toArray n n2 dd dd2 sl sl2 (by simpa using hsz)) ⟨ho, ho2, ?_⟩
  rw [e]
  exact new_list hs k (r₁.append r₂)

/-- an item -/
def itemAt {α : Type} (xs : List α) (k : Int) : Option α := if 0 ≤ k then xs[k.toNat]? else if -(xs.length : Int) ≤ k then xs[(k + xs.length).toNat]? else Option.none
theorem subscript_tail {e₁ e₂ : Expr} {s : Shared} {o i : Value} {T id : String} {Q : Value → Shared → Prop} (hT : s.TypeIs o T)
    (hl : typeLookup (.type T) "__getitem__" = pure (some (.builtin id))) (hg : wpAny X.M X.A (getItem o i) Q NoE s) (hs : ∃ ops, subscripted e₂ false o i = operate ops (getItem o i)) :
    wpAny X.M X.A (getitemInPython o >>= fun b => subscripted e₂ b o i >>= fun r => letTemporaryGo e₁ o r >>= fun _ => pure r) Q NoE s := by
  obtain ⟨ops, hs⟩ := hs
  exact tail_any hT hl hg hs
theorem subscripted_any (e₂ : Expr) (o i : Value) : ∃ ops, subscripted e₂ false o i = operate ops (getItem o i) := by
  unfold subscripted
  split
  · exact ⟨_, rfl⟩
  · rename_i h; cases h
  · exact ⟨_, rfl⟩
theorem getItem_item {s : Shared} {a : Addr} {vs : List Value} {ds : List D} {k : Int} {t : Tok} {d : D} (hl : s.heap.PlainList a vs.toArray) (r : Reps W s.heap vs ds) (hk : itemAt ds k = some d) (hz : ds.length ≤ 1000000) {Q : Value → Shared → Prop}
    (q : ∀ v, Rep W s.heap v d → Q v s) : wpAny X.M X.A (getItem (.ref a) (.int k t)) Q NoE s := by
  unfold itemAt at hk
  split at hk
  · rename_i h0
    obtain ⟨v, e, rv⟩ := r.get hk
    have hlt : k.toNat < ds.length := (List.getElem?_eq_some_iff.mp hk).1
    exact wpAny_getItem_list hl.isList h0 (by omega) (by simpa using e) (q v rv)
  · split at hk
    · rename_i h0 h1
      obtain ⟨v, e, rv⟩ := r.get hk
      have hn := r.length
      refine wpAny_getItem_list_neg hl.isList (by omega) ?_ (by omega) ?_ (q v rv)
      · rw [List.size_toArray, hn]; exact h1
      · rw [List.size_toArray, hn]; simpa using e
    · cases hk
theorem ev_item {l₁ l₂ : Lv} {e₁ e₂ : Expr} {ds : List D} {k : Int} {d : D} {pos : Pos} (h₁ : Ev X W ρ l₁ e₁ (.list ds)) (h₂ : Ev X W ρ l₂ e₂ (.int k)) (hk : itemAt ds k = some d) (hz : ds.length ≤ 1000000) :
    Ev X W ρ .s (.Subscript e₁ e₂ pos) d := fun s hs => by
  rw [eval_Subscript]
  refine wpAny_bind (wpAny_mono (h₁ s hs) (fun o s₁ k₁ => wpAny_bind (wpAny_holding (wpAny_mono (h₂ s₁ (hs.mono k₁.1)) (fun i s₂ k₂ => wpAny_bind (wpAny_standAt ?_)) fun _ _ x => x))) fun _ _ x => x)
  obtain ⟨a, vs, rfl, hl, r⟩ := k₁.2.toT.ext k₂.1.ext
  obtain ⟨t, rfl⟩ := repT_int k₂.2.toT
  exact subscript_tail hl.isList.typeIs slot_list_getitem.lookup (getItem_item hl r hk hz fun v rv => ⟨k₁.1.trans k₂.1, rv⟩) (subscripted_any _ _ _)

/-- slices -/
def EvO (X : Cx) (W : List Addr) (ρ : List (Str × Ent)) (e : Option Expr) (k : Option Int) : Prop :=
  ∀ s, Ok X W ρ s → wpAny X.M X.A (evalPart e X.env) (fun v s' => SExt [] s s' ∧ IsPart v k) NoE s
theorem evO_none : EvO X W ρ Option.none Option.none := fun s hs => wpAny_evalPart_none ⟨.refl .., .none⟩
theorem evO_some {l : Lv} {e : Expr} {k : Int} (h : Ev X W ρ l e (.int k)) : EvO X W ρ (some e) (some k) := fun s hs =>
  wpAny_evalPart_some (wpAny_mono (h s hs) (fun v s' q => ⟨q.1, by obtain ⟨t, rfl⟩ := repT_int q.2.toT; exact .int _ _⟩) fun _ _ x => x)
def sliceL {α : Type} (xs : List α) (lo hi st : Option Int) : List α :=
  (sliceRange (sliceBounds lo hi st xs.length).1 (sliceBounds lo hi st xs.length).2.1 (sliceBounds lo hi st xs.length).2.2).filterMap (xs[·]?)
theorem Reps.pick {h : Heap} {vs : List Value} {ds : List D} (r : Reps W h vs ds) (is : List Nat) : Reps W h (is.filterMap (vs[·]?)) (is.filterMap (ds[·]?)) := by
  induction is with
  | nil => exact .nil
  | cons i is ih =>
    rw [List.filterMap_cons, List.filterMap_cons]
    cases e : ds[i]? with
    | none =>
      have : vs[i]? = Option.none := by
        rw [List.getElem?_eq_none_iff] at e ⊢
        rw [r.length]; exact e
      rw [this]; exact ih
    | some d =>
      obtain ⟨v, e', rv⟩ := r.get e
      rw [e']; exact .cons rv ih
theorem sliceL_length {α : Type} (xs : List α) (lo hi st : Option Int) : (sliceL xs lo hi st).length ≤ (sliceRange (sliceBounds lo hi st xs.length).1 (sliceBounds lo hi st xs.length).2.1 (sliceBounds lo hi st xs.length).2.2).length := List.length_filterMap_le _ _
theorem ev_slice {l₁ : Lv} {e₁ : Expr} {lo hi st : Option Expr} {kl kh ks : Option Int} {ds : List D} {p pos : Pos} (h₁ : Ev X W ρ l₁ e₁ (.list ds)) (hl : EvO X W ρ lo kl) (hh : EvO X W ρ hi kh) (hst : EvO X W ρ st ks)
    (h0 : ks ≠ some 0) (hz : ds.length ≤ 1000000) : Ev X W ρ .f (.Subscript e₁ (.Slice lo hi st p) pos) (.list (sliceL ds kl kh ks)) := fun s hs => by
  rw [eval_Subscript]
  refine wpAny_bind (wpAny_mono (h₁ s hs) (fun o s₁ k₁ => wpAny_bind (wpAny_holding (wpAny_Slice (wpAny_mono (hl s₁ (hs.mono k₁.1)) (fun vl s₂ k₂ =>
    wpAny_mono (hh s₂ (hs.mono (k₁.1.trans k₂.1))) (fun vu s₃ k₃ => wpAny_mono (hst s₃ (hs.mono ((k₁.1.trans k₂.1).trans k₃.1))) (fun vs s₄ k₄ => wpAny_bind (wpAny_standAt ?_)) fun _ _ x => x) fun _ _ x => x) fun _ _ x => x)))) fun _ _ x => x)
  have kk := ((k₁.1.trans k₂.1).trans k₃.1).trans k₄.1
  have kp := kk.trans (sext_push (T := []) s₄ { cls := .type "slice", data := .fields #[vl, vu, vs] })
  obtain ⟨a, us, rfl, hls, r⟩ := k₁.2.toT.keep fun b o e => Heap.get?_push_of_some { cls := .type "slice", data := .fields #[vl, vu, vs] } ((((k₂.1.trans k₃.1).trans k₄.1).ext.strict) b o e)
  refine subscript_tail (s := { s₄ with heap := s₄.heap.push { cls := .type "slice", data := .fields #[vl, vu, vs] } }) hls.isList.typeIs slot_list_getitem.lookup ?_ (subscripted_any _ _ _)
  refine wpAny_getItem_list_slice hls.isList (Heap.IsSliceOf.new _ _ _ _) k₂.2 k₃.2 k₄.2 h0 ?_ (by rw [List.size_toArray, r.length, sizeLine_eq]; omega)
  have e : slicePick us.toArray kl kh ks = (sliceL us kl kh ks).toArray := by
    unfold slicePick sliceL
    simp
  rw [e]
  have e2 : Reps W (s₄.heap.push { cls := .type "slice", data := .fields #[vl, vu, vs] }) (sliceL us kl kh ks) (sliceL ds kl kh ks) := by
    unfold sliceL
    rw [r.length]
    exact r.pick _
  exact new_list hs kp e2
end

/-- what slices pick -/
theorem sliceRange_one (a b : Int) (ha : 0 ≤ a) : sliceRange a b 1 = (List.range (b - a).toNat).map (fun k => a.toNat + k) := by
  unfold sliceRange
  simp only [show (1 : Int) > 0 from by decide, if_true]
  have : (if a < b then (b - a + 1 - 1) / 1 else 0).toNat = (b - a).toNat := by
    split <;> omega
  rw [this]
  apply List.map_congr_left
  intro k _
  omega
theorem pick_range {α : Type} (xs : List α) (a n : Nat) : ((List.range n).map (fun k => a + k)).filterMap (xs[·]?) = (xs.drop a).take n := by
  induction n with
  | zero => simp
  | succ n ih =>
    rw [List.range_succ, List.map_append, List.filterMap_append, ih, List.take_succ]
    congr 1
    simp only [List.map_cons, List.map_nil, List.filterMap_cons, List.filterMap_nil, List.getElem?_drop]
    cases xs[a + n]? <;> rfl
theorem sliceL_to {α : Type} (xs : List α) (k : Int) (hk : 0 ≤ k) : sliceL xs Option.none (some k) Option.none = xs.take k.toNat := by
  unfold sliceL sliceBounds
  simp only [Option.getD_none, show (1 : Int) > 0 from by decide, if_true]
  rw [if_neg (Int.not_lt.mpr hk), sliceRange_one _ _ (Int.le_refl 0), pick_range]
  simp only [Int.toNat_zero, List.drop_zero, Int.sub_zero]
  have : (max 0 (min k ↑xs.length)).toNat = min k.toNat xs.length := by omega
  rw [this]
  rw [List.take_eq_take_iff]
  omega
theorem sliceL_from {α : Type} (xs : List α) (k : Int) (hk : 0 ≤ k) : sliceL xs (some k) Option.none Option.none = xs.drop k.toNat := by
  unfold sliceL sliceBounds
  simp only [Option.getD_none, show (1 : Int) > 0 from by decide, if_true]
  rw [if_neg (Int.not_lt.mpr hk), sliceRange_one _ _ (by omega), pick_range]
  have : (max 0 (min k ↑xs.length)).toNat = min k.toNat xs.length := by omega
  rw [this]
  by_cases h : k.toNat ≤ xs.length
  · rw [Nat.min_eq_left h]
    apply List.take_of_length_le
    rw [List.length_drop]; omega
  · rw [Nat.min_eq_right (by omega), List.drop_length, List.drop_eq_nil_of_le (by omega)]; simp
theorem sliceL_last {α : Type} (xs : List α) (k : Int) (hk : 0 < k) : sliceL xs (some (-k)) Option.none Option.none = xs.drop (xs.length - k.toNat) := by
  unfold sliceL sliceBounds
  simp only [Option.getD_none, show (1 : Int) > 0 from by decide, if_true]
  rw [if_pos (by omega), sliceRange_one _ _ (by omega), pick_range]
  have : (max 0 (min (-k + ↑xs.length) ↑xs.length)).toNat = xs.length - k.toNat := by omega
  rw [this]
  apply List.take_of_length_le
  rw [List.length_drop]; omega
end Mine



namespace Mine
open PySem PyProof.Rows

inductive Put : List (Str × Ent) → Str → Ent → List (Str × Ent) → Prop
  | here {ρ : List (Str × Ent)} {x : Str} {e₀ e : Ent} : e₀.rw = true → Put ((x, e₀) :: ρ) x e ((x, e) :: ρ)
  | there {ρ ρ' : List (Str × Ent)} {x : Str} {e : Ent} {p : Str × Ent} : Put ρ x e ρ' → Put (p :: ρ) x e (p :: ρ')
theorem Put.keys {ρ ρ' : List (Str × Ent)} {x : Str} {e : Ent} (h : Put ρ x e ρ') : ρ'.map (·.1) = ρ.map (·.1) := by
  induction h with
  | here _ => rfl
  | there _ ih => rw [List.map_cons, List.map_cons, ih]
theorem Put.mem {ρ ρ' : List (Str × Ent)} {x : Str} {e : Ent} (h : Put ρ x e ρ') : ∃ e₀, (x, e₀) ∈ ρ ∧ e₀.rw = true := by
  induction h with
  | here hr => exact ⟨_, .head _, hr⟩
  | there _ ih => obtain ⟨e₀, m, r⟩ := ih; exact ⟨e₀, .tail _ m, r⟩
theorem Put.cases {ρ ρ' : List (Str × Ent)} {x : Str} {e : Ent} (h : Put ρ x e ρ') (nd : (ρ.map (·.1)).Nodup) : ∀ q ∈ ρ', q = (x, e) ∨ (q ∈ ρ ∧ q.1 ≠ x) := by
  induction h with
  | here _ =>
    intro q hq
    rw [List.map_cons, List.nodup_cons] at nd
    rcases List.mem_cons.mp hq with rfl | hq
    · exact .inl rfl
    · exact .inr ⟨.tail _ hq, fun e => nd.1 (by have := List.mem_map_of_mem (f := (·.1)) hq; rw [e] at this; exact this)⟩
  | @there ρ ρ' x e p h ih =>
    intro q hq
    rw [List.map_cons, List.nodup_cons] at nd
    rcases List.mem_cons.mp hq with rfl | hq
    · refine .inr ⟨.head _, fun e' => ?_⟩
      obtain ⟨e₀, m, _⟩ := h.mem
      exact nd.1 (by have := List.mem_map_of_mem (f := (·.1)) m; rw [← e'] at this; exact this)
    · rcases ih nd.2 q hq with e' | ⟨m, n⟩
      · exact .inl e'
      · exact .inr ⟨.tail _ m, n⟩

/-- objects that a statement must leave -/
def Fixed (o : Obj) : Prop := (∃ vs, o.data = .fields vs) ∨ (∃ xs n, o.data = .seq xs n)
inductive Pr where
  | obj (a : Addr) (o : Obj)
  | reps (vs : List Value) (ds : List D)
def PrOk (W : List Addr) (h : Heap) : Pr → Prop
  | .obj a o => h.get? a = some o ∧ a ∉ W ∧ Fixed o
  | .reps vs ds => Reps W h vs ds
def Prot (P : List Pr) (W : List Addr) (h : Heap) : Prop := ∀ p ∈ P, PrOk W h p
theorem Prot.keep {P : List Pr} {W : List Addr} {h h' : Heap} (x : Prot P W h) (k : ∀ b o, h.get? b = some o → h'.get? b = some o) : Prot P W h' :=
  fun p hp => by
    have y := x p hp
    cases p with
    | obj a o => exact ⟨k _ _ y.1, y.2⟩
    | reps vs ds => exact Reps.keep y k

structure OkP (X : Cx) (W : List Addr) (P : List Pr) (ρ : List (Str × Ent)) (s : Shared) : Prop where
  ok : Ok X W ρ s
  prot : Prot P W s.heap
theorem OkP.mono {X : Cx} {W : List Addr} {P : List Pr} {ρ : List (Str × Ent)} {s s' : Shared} (x : OkP X W P ρ s) (k : SExt [] s s') : OkP X W P ρ s' := ⟨x.ok.mono k, x.prot.keep k.ext.strict⟩

def Sub (ρ' ρ : List (Str × Ent)) : Prop := (∀ p ∈ ρ', p ∈ ρ) ∧ (ρ'.map (·.1)).Nodup
theorem Ok.weaken {X : Cx} {W : List Addr} {ρ ρ' : List (Str × Ent)} {s : Shared} (x : Ok X W ρ s) (h : Sub ρ' ρ) : Ok X W ρ' s :=
  ⟨x.ext, h.2, fun p hp => x.ent p (h.1 p hp), fun p hp q hq => x.own p (h.1 p hp) q (h.1 q hq), x.wal⟩

/-- forget one entry -/
theorem Ok.forget {X : Cx} {W : List Addr} {ρ ρ' : List (Str × Ent)} {s : Shared} (x : Ok X W ρ s) (h : ∀ p ∈ ρ', p ∈ ρ ∨ (p.2 = .un ∧ ∃ e, (p.1, e) ∈ ρ ∧ e.rw = true)) (nd : (ρ'.map (·.1)).Nodup) : Ok X W ρ' s := by
  refine ⟨x.ext, nd, fun p hp => ?_, fun p hp q hq a ns b ms e1 e2 => ?_, x.wal⟩
  · rcases h p hp with m | ⟨e, e', m, r⟩
    · exact x.ent p m
    · rcases x.ent _ m with ⟨v, z, _⟩ | ⟨⟨ov, a, b⟩, c⟩
      · have z' : e' = .gl v := z
        rw [z'] at r; cases r
      · exact .inr ⟨⟨ov, a, by rw [e]; trivial⟩, fun _ => c r⟩
  · rcases h p hp with m | ⟨e, _⟩
    · rcases h q hq with m' | ⟨e', _⟩
      · exact x.own p m q m' a ns b ms e1 e2
      · rw [e'] at e2; cases e2
    · rw [e] at e1; cases e1

/-- the slot of a name is written: what stays -/
theorem EntOk.extBut {hE : Heap} {W : List Addr} {h h' : Heap} {ov : Option Value} {e : Ent} {a : Addr} (x : EntOk hE W h ov e) (k : Heap.ExtBut a h h') (nd : NoData h a) : EntOk hE W h' ov e := by
  cases e with
  | un => trivial
  | val _ d => obtain ⟨v, e, r⟩ := x; exact ⟨v, e, r.extBut k (.inr nd)⟩
  | tmp _ d =>
    obtain ⟨v, e, r, ex⟩ := x
    refine ⟨v, e, ?_, ex⟩
    cases d with
    | list ds =>
      obtain ⟨b, vs, rfl, hl, hr⟩ := r
      refine ⟨b, vs, rfl, hl.extBut k fun z => ?_, hr.extBut k (.inr nd)⟩
      subst z
      obtain ⟨o, ho, _, n, hd⟩ := hl.isList
      exact nd o ho (.inl ⟨_, _, hd⟩)
    | _ => exact Rep.extBut r k (.inr nd)
  | own b ns =>
    obtain ⟨e, w, f, vs, hl, r⟩ := x
    refine ⟨e, w, f, vs, hl.extBut k fun z => ?_, r.extBut k (.inr nd)⟩
    subst z
    obtain ⟨o, ho, _, n, hd⟩ := hl.isList
    exact nd o ho (.inl ⟨_, _, hd⟩)
  | gl v => cases x

theorem NoData.ns {h : Heap} {a : Addr} {m : Str → Option Value} (n : h.Ns a m) : NoData h a := by
  obtain ⟨o, es, ep, ho, hd, _⟩ := n
  intro o' ho' z
  rw [ho] at ho'; cases ho'
  rcases z with ⟨xs, n, z⟩ | z <;> rw [hd] at z <;> cases z
theorem NoData.cell {h : Heap} {a : Addr} {v : Option Value} (n : h.IsCell a v) : NoData h a := by
  obtain ⟨o, ho, hd⟩ := n
  intro o' ho' z
  rw [ho] at ho'; cases ho'
  rcases z with ⟨xs, n, z⟩ | z <;> rw [hd] at z <;> cases z
theorem NoData.fields {h : Heap} {a : Addr} {o : Obj} {vs : Array Value} (ho : h.get? a = some o) (hd : o.data = .fields vs) : NoData h a := by
  intro o' ho' z
  rw [ho] at ho'; cases ho'
  rcases z with ⟨xs, n, z⟩ | z <;> rw [hd] at z <;> cases z
theorem Prot.extBut {P : List Pr} {W : List Addr} {h h' : Heap} {a : Addr} (x : Prot P W h) (k : Heap.ExtBut a h h') (n : ∀ o, h.get? a = some o → ¬ Fixed o) (nd : NoData h a) : Prot P W h' := fun p hp => by
    have y := x p hp
    cases p with
    | obj b o => exact ⟨k _ _ (fun z => n o (z ▸ y.1) y.2.2) y.1, y.2⟩
    | reps vs ds => exact Reps.extBut y k (.inr nd)
theorem Prot.extButW {P : List Pr} {W : List Addr} {h h' : Heap} {a : Addr} (x : Prot P W h) (k : Heap.ExtBut a h h') (n : a ∈ W) : Prot P W h' := fun p hp => by
    have y := x p hp
    cases p with
    | obj b o => exact ⟨k _ _ (fun z => y.2.1 (z ▸ n)) y.1, y.2⟩
    | reps vs ds => exact Reps.extBut y k (.inl n)
theorem notFixed_ns {h : Heap} {a : Addr} {m : Str → Option Value} (n : h.Ns a m) : ∀ o, h.get? a = some o → ¬ Fixed o := by
  obtain ⟨o, es, ep, ho, hd, _⟩ := n
  intro o' ho' z
  rw [ho] at ho'; cases ho'
  rcases z with ⟨xs, z⟩ | ⟨xs, n, z⟩ <;> rw [hd] at z <;> cases z
theorem notFixed_cell {h : Heap} {a : Addr} {v : Option Value} (n : h.IsCell a v) : ∀ o, h.get? a = some o → ¬ Fixed o := by
  obtain ⟨o, ho, hd⟩ := n
  intro o' ho' z
  rw [ho] at ho'; cases ho'
  rcases z with ⟨xs, z⟩ | ⟨xs, n, z⟩ <;> rw [hd] at z <;> cases z
theorem ns_ne_cell {h : Heap} {a c : Addr} {m : Str → Option Value} {v : Option Value} (n : h.Ns a m) (k : h.IsCell c v) : a ≠ c := by
  intro e; subst e
  obtain ⟨o, es, ep, ho, hd, _⟩ := n
  obtain ⟨o', ho', hd'⟩ := k
  rw [ho] at ho'; cases ho'
  rw [hd] at hd'; cases hd'

theorem ns_unique {h : Heap} {a : Addr} {m m' : Str → Option Value} (n : h.Ns a m) (n' : h.Ns a m') : m = m' := by
  obtain ⟨o, es, ep, ho, hd, _, hm⟩ := n
  obtain ⟨o', es', ep', ho', hd', _, hm'⟩ := n'
  rw [ho] at ho'; cases ho'
  rw [hd] at hd'; cases hd'
  funext x
  rw [← hm, ← hm']

/-- the address of a name's slot -/
theorem store1 {X : Cx} {A : Around} {s : Shared} {x : Str} {v : Value} {ov : Option Value} (F : Fine X) (h : Holds1 s.heap X.env x ov) (fr : Fresh1 X.sE.heap X.env x) {Q : Unit → Shared → Prop}
    (q : ∀ a h' tk, ((X.env.kindOf x = some .local ∧ a = X.env.locals) ∨ ∃ ov, s.heap.IsCell a ov) → X.sE.heap.get? a = Option.none → Heap.SameBut a s.heap h' → NoData s.heap a → (∀ o, s.heap.get? a = some o → ¬ Fixed o) → (∃ o, h'.get? a = some o) → Holds1 h' X.env x (some v) →
      (∀ y ov', y ≠ x → Holds1 s.heap X.env y ov' → Holds1 h' X.env y ov') → Q () { s with heap := h', toks := tk }) :
    wpAny X.M A (storeName X.env x v) Q NoE s := by
  rcases h with ⟨a, m, n, e⟩ | ⟨a | a, c, e, n⟩
  · refine wpAny_storeName_local a n (fun h' n' hs => ?_) (by rw [F.kind]; rfl)
    refine q X.env.locals h' _ (.inl ⟨a, rfl⟩) (fr.1 a) hs (.ns n) (notFixed_ns n) (let ⟨o, _, _, ho, _⟩ := n'; ⟨o, ho⟩) (.inl ⟨a, _, n', by simp⟩) fun y ov' hy hh => ?_
    rcases hh with ⟨b, m', n'', e'⟩ | ⟨b, c, e', n''⟩
    · refine .inl ⟨b, _, n', ?_⟩
      rw [ns_unique n n'', ← e']
      simp [hy]
    · exact .inr ⟨b, c, e', n''.sameBut hs (ns_ne_cell n n'').symm⟩
  · refine wpAny_storeName_cell F.kind a e n fun h' n' hs => ?_
    have tk : ({ s with heap := h' } : Shared) = { s with heap := h', toks := s.toks } := rfl
    rw [tk]
    refine q c h' _ (.inr ⟨_, n⟩) (fr.2.2 c a e) hs (.cell n) (notFixed_cell n) (let ⟨o, ho, _⟩ := n'; ⟨o, ho⟩) (.inr ⟨.inl a, c, e, n'⟩) fun y ov' hy hh => ?_
    rcases hh with ⟨b, m', n'', e'⟩ | ⟨b, c', e', n''⟩
    · exact .inl ⟨b, m', n''.sameBut hs (ns_ne_cell n'' n), e'⟩
    · exact .inr ⟨b, c', e', n''.sameBut hs fun z => hy (F.cells _ _ c (z ▸ e') e)⟩
  · exact absurd a fr.2.1

/-- only a slot was written -/
def Moved (h h' : Heap) : Prop := ∃ a, Heap.ExtBut a h h' ∧ NoData h a
theorem Rep.moved {W : List Addr} {h h' : Heap} {v : Value} {d : D} (x : Rep W h v d) (m : Moved h h') : Rep W h' v d := let ⟨a, k, n⟩ := m; x.extBut k (.inr n)
theorem RepT.moved {W : List Addr} {h h' : Heap} {v : Value} {d : D} (x : RepT W h v d) (m : Moved h h') : RepT W h' v d := by
  obtain ⟨a, k, nd⟩ := m
  cases d with
  | list ds =>
    obtain ⟨b, vs, rfl, hl, hr⟩ := x
    refine ⟨b, vs, rfl, hl.extBut k fun z => ?_, hr.extBut k (.inr nd)⟩
    subst z
    obtain ⟨o, ho, _, n, hd⟩ := hl.isList
    exact nd o ho (.inl ⟨_, _, hd⟩)
  | _ => exact Rep.extBut x k (.inr nd)

/-- data stay -/
def Mv (h h' : Heap) : Prop := ∀ W v d, RepT W h v d → RepT W h' v d
theorem Mv.refl (h : Heap) : Mv h h := fun _ _ _ x => x
theorem Mv.trans {h h' h'' : Heap} (x : Mv h h') (y : Mv h' h'') : Mv h h'' := fun W v d r => y W v d (x W v d r)
theorem Moved.mv {h h' : Heap} (m : Moved h h') : Mv h h' := fun W v d r => r.moved m
theorem Ext.mv {h h' : Heap} (m : Ext [] h h') : Mv h h' := fun W v d r => r.ext m

theorem store_ok2 {X : Cx} {A : Around} {W : List Addr} {P : List Pr} {ρ ρ' : List (Str × Ent)} {s : Shared} {x : Str} {v : Value} {e : Ent} (F : Fine X) (hs : OkP X W P ρ s) (hp : Put ρ x e ρ')
    (he : EntOk X.sE.heap W s.heap (some v) e) (hown : ∀ a ns, e = .own a ns → ∀ q ∈ ρ, ∀ b ms, q.2 = .own b ms → b ≠ a) {Q : Unit → Shared → Prop}
    (q : ∀ s', OkP X W P ρ' s' → Moved s.heap s'.heap → (∀ C m, s.heap.Ns C m → (X.env.kindOf x = some .local → C ≠ X.env.locals) → s'.heap.Ns C m) → Q () s') : wpAny X.M A (storeName X.env x v) Q NoE s := by
  obtain ⟨e₀, m, r⟩ := hp.mem
  obtain ⟨v', z, _⟩ | ⟨⟨ov, h1, _⟩, fr⟩ := hs.ok.ent _ m
  · have z' : e₀ = .gl v' := z
    rw [z'] at r; cases r
  refine store1 F h1 (fr r) fun a h' tk hsl hfr hsb nd nf hth hx hoth => q _ ?_ ⟨a, hsb.extBut, nd⟩ (fun C m n hC => n.sameBut hsb (by
    rcases hsl with ⟨z', z⟩ | ⟨ov, z⟩
    · rw [z]; exact hC z'
    · exact ns_ne_cell n z))
  refine ⟨⟨⟨hs.ok.ext.ext.sameBut hfr hsb, hs.ok.ext.gens, hs.ok.ext.os⟩, by rw [hp.keys]; exact hs.ok.nd, fun p hp' => ?_, fun p hp' p₂ hp₂ a₁ ns b ms e1 e2 hne => ?_, fun b hb => ?_⟩, ?_⟩
  · rcases hp.cases hs.ok.nd p hp' with rfl | ⟨m', hne⟩
    · exact .inr ⟨⟨some v, hx, he.extBut hsb.extBut nd⟩, fun _ => fr r⟩
    · obtain z | ⟨⟨ov', h2, h3⟩, fr'⟩ := hs.ok.ent _ m'
      · exact .inl z
      · exact .inr ⟨⟨ov', hoth _ _ hne h2, h3.extBut hsb.extBut nd⟩, fr'⟩
  · rcases hp.cases hs.ok.nd p hp' with rfl | ⟨m', hne'⟩
    · rcases hp.cases hs.ok.nd p₂ hp₂ with rfl | ⟨m₂, _⟩
      · exact absurd rfl hne
      · exact (hown a₁ ns e1 p₂ m₂ b ms e2).symm
    · rcases hp.cases hs.ok.nd p₂ hp₂ with rfl | ⟨m₂, _⟩
      · exact hown b ms e2 p m' a₁ ns e1
      · exact hs.ok.own p m' p₂ m₂ a₁ ns b ms e1 e2 hne
  · obtain ⟨o, ho⟩ := hs.ok.wal b hb
    by_cases hba : b = a
    · subst hba; exact hth
    · exact ⟨o, hsb.extBut b o hba ho⟩
  · exact hs.prot.extBut hsb.extBut nf nd

theorem store_ok {X : Cx} {A : Around} {W : List Addr} {P : List Pr} {ρ ρ' : List (Str × Ent)} {s : Shared} {x : Str} {v : Value} {e : Ent} (F : Fine X) (hs : OkP X W P ρ s) (hp : Put ρ x e ρ')
    (he : EntOk X.sE.heap W s.heap (some v) e) (hown : ∀ a ns, e = .own a ns → ∀ q ∈ ρ, ∀ b ms, q.2 = .own b ms → b ≠ a) {Q : Unit → Shared → Prop}
    (q : ∀ s', OkP X W P ρ' s' → Moved s.heap s'.heap → Q () s') : wpAny X.M A (storeName X.env x v) Q NoE s := store_ok2 F hs hp he hown fun s' a b _ => q s' a b
theorem store_val {X : Cx} {A : Around} {W : List Addr} {P : List Pr} {ρ ρ' : List (Str × Ent)} {s : Shared} {x : Str} {v : Value} {d : D} (F : Fine X) (hs : OkP X W P ρ s) (hp : Put ρ x (.val true d) ρ')
    (he : Rep W s.heap v d) {Q : Unit → Shared → Prop} (q : ∀ s', OkP X W P ρ' s' → Moved s.heap s'.heap → Q () s') : wpAny X.M A (storeName X.env x v) Q NoE s :=
  store_ok F hs hp ⟨v, rfl, he⟩ (fun _ _ e => by cases e) q
theorem store_tmp {X : Cx} {A : Around} {W : List Addr} {P : List Pr} {ρ ρ' : List (Str × Ent)} {s : Shared} {x : Str} {v : Value} {d : D} (F : Fine X) (hs : OkP X W P ρ s) (hp : Put ρ x (.tmp true d) ρ')
    (he : RepT W s.heap v d) (ex : ∀ b, v = .ref b → ∃ o, X.sE.heap.get? b = some o) {Q : Unit → Shared → Prop} (q : ∀ s', OkP X W P ρ' s' → Moved s.heap s'.heap → Q () s') : wpAny X.M A (storeName X.env x v) Q NoE s :=
  store_ok F hs hp ⟨v, rfl, he, ex⟩ (fun _ _ e => by cases e) q
end Mine



namespace Mine
open PySem PyProof.Rows

theorem cellsFrom_app : ∀ (names : List (Str × NameKind)) (n : Nat) (acc : List (Str × Addr)), cellsFrom n names acc = cellsFrom n names [] ++ acc
  | [], _, _ => rfl
  | (x, k) :: r, n, acc => by
    unfold cellsFrom
    split
    · rw [cellsFrom_app r (n + 1) ((x, n) :: acc), cellsFrom_app r (n + 1) [(x, n)]]; simp
    · exact cellsFrom_app r n acc
theorem cellsFrom_keys : ∀ (names : List (Str × NameKind)) (n : Nat) (x : Str) (c : Addr), (x, c) ∈ cellsFrom n names [] → (x, NameKind.cell) ∈ names ∧ n ≤ c
  | [], _, _, _, h => by cases h
  | (y, k) :: r, n, x, c, h => by
    unfold cellsFrom at h
    split at h
    · rename_i hk
      rw [cellsFrom_app, List.mem_append] at h
      rcases h with h | h
      · have := cellsFrom_keys r (n + 1) x c h
        exact ⟨.tail _ this.1, by omega⟩
      · simp at h
        obtain ⟨rfl, rfl⟩ := h
        have : k = .cell := by simpa using hk
        subst this
        exact ⟨.head _, Nat.le_refl _⟩
    · have := cellsFrom_keys r n x c h
      exact ⟨.tail _ this.1, this.2⟩
theorem cellsFrom_has : ∀ (names : List (Str × NameKind)) (n : Nat) (x : Str), (x, NameKind.cell) ∈ names → ∃ c, (x, c) ∈ cellsFrom n names []
  | [], _, _, h => by cases h
  | (y, k) :: r, n, x, h => by
    unfold cellsFrom
    rcases List.mem_cons.mp h with e | h
    · cases e
      simp only [beq_self_eq_true, if_true]
      rw [cellsFrom_app]
      exact ⟨n, List.mem_append.mpr (.inr (.head _))⟩
    · split
      · obtain ⟨c, hc⟩ := cellsFrom_has r (n + 1) x h
        rw [cellsFrom_app]
        exact ⟨c, List.mem_append.mpr (.inl hc)⟩
      · exact cellsFrom_has r n x h
theorem lookup_of_mem {α : Type} : ∀ {l : List (Str × α)} {x : Str} {c : α}, (x, c) ∈ l → ∃ c', l.lookup x = some c'
  | (y, d) :: l, x, c, h => by
    rw [List.lookup_cons]
    cases e : x == y with
    | true => exact ⟨d, rfl⟩
    | false =>
      rcases List.mem_cons.mp h with z | h
      · cases z; simp at e
      · exact lookup_of_mem h
theorem lookup_none {α : Type} : ∀ {l : List (Str × α)} {x : Str}, (∀ c, (x, c) ∉ l) → l.lookup x = Option.none
  | [], _, _ => rfl
  | (y, d) :: l, x, h => by
    rw [List.lookup_cons]
    cases e : x == y with
    | true =>
      have : x = y := by simpa using e
      subst this
      exact absurd (.head _) (h d)
    | false => exact lookup_none fun c hc => h c (.tail _ hc)
theorem nodup_lookup {α : Type} : ∀ {l : List (Str × α)} {x : Str} {c : α}, (l.map (·.1)).Nodup → (x, c) ∈ l → l.lookup x = some c
  | (y, d) :: l, x, c, nd, h => by
    rw [List.map_cons, List.nodup_cons] at nd
    rw [List.lookup_cons]
    rcases List.mem_cons.mp h with z | h
    · cases z; simp
    · have : x ≠ y := fun e => nd.1 (by have := List.mem_map_of_mem (f := (·.1)) h; rw [e] at this; exact this)
      have e : (x == y) = false := by simpa using this
      rw [e]
      exact nodup_lookup nd.2 h
theorem nodup_unique {α : Type} {l : List (Str × α)} {x : Str} {c c' : α} (nd : (l.map (·.1)).Nodup) (h : (x, c) ∈ l) (h' : (x, c') ∈ l) : c = c' := by
  have a := nodup_lookup nd h
  rw [nodup_lookup nd h'] at a
  cases a; rfl

/-- the heap behind a new frame -/
structure Laid1 (h : Heap) (names : List (Str × NameKind)) (closure : List (Str × Addr)) (h' : Heap) (L : Addr) (cells : List (Str × Addr)) : Prop where
  keep : ∀ b o, h.get? b = some o → h'.get? b = some o
  fresh : h.get? L = Option.none
  ns : h'.Ns L fun _ => Option.none
  cell : ∀ x, (x, NameKind.cell) ∈ names → ∃ c, cells.lookup x = some c ∧ h'.IsCell c Option.none ∧ h.get? c = Option.none
  free : ∀ x, (x, NameKind.free) ∈ names → cells.lookup x = closure.lookup x
  inj : ∀ x y c, cells.lookup x = some c → cells.lookup y = some c → x = y

theorem laid1 {h : Heap} {names : List (Str × NameKind)} {closure : List (Str × Addr)} (nd : (names.map (·.1)).Nodup) (cls : Value)
    (hin : ∀ x y c, closure.lookup x = some c → closure.lookup y = some c → x = y) (hal : ∀ x c, closure.lookup x = some c → ∃ o, h.get? c = some o) :
    Laid1 h names closure (pushCells (h.push { cls := cls, data := .dict #[] }) names) h.objs.size (cellsFrom (h.objs.size + 1) names closure) := by
  have ok := cellsFrom_ok names (h.push { cls := cls, data := .dict #[] }) (h.objs.size + 1) [] ⟨fun _ _ hm => (nomatch hm), List.Pairwise.nil⟩ (by rw [Heap.size_push]; exact Nat.le_refl _)
  rw [Heap.size_push] at ok
  have app := cellsFrom_app names (h.objs.size + 1) closure
  refine ⟨fun b o e => pushCells_keeps _ _ b o (Heap.get?_push_of_some _ e), get_size _, (Heap.Ns.new h cls).keeps (pushCells_keeps _ _), fun x hx => ?_, fun x hx => ?_, fun x y c hx hy => ?_⟩
  · obtain ⟨c, hc⟩ := cellsFrom_has names (h.objs.size + 1) x hx
    obtain ⟨c', hl⟩ := lookup_of_mem hc
    have hm := mem_of_lookup hl
    refine ⟨c', by rw [app, List.lookup_append, hl]; rfl, (ok.empty x c' hm).1, ?_⟩
    have := (ok.empty x c' hm).2
    cases q : h.get? c' with
    | none => rfl
    | some o => exact absurd (Nat.lt_of_lt_of_le (Heap.lt_size q) (Nat.le_of_succ_le this)) (Nat.lt_irrefl _)
  · rw [app, List.lookup_append, lookup_none fun c hc => ?_]
    · rfl
    · have := (cellsFrom_keys _ _ _ _ hc).1
      have := nodup_unique nd hx this
      cases this
  · rw [app, List.lookup_append] at hx hy
    have low : ∀ z c, closure.lookup z = some c → c < h.objs.size := fun z c e => by obtain ⟨o, ho⟩ := hal z c e; exact Heap.lt_size ho
    have hi : ∀ z c, (cellsFrom (h.objs.size + 1) names []).lookup z = some c → h.objs.size < c := fun z c e => (ok.empty z c (mem_of_lookup e)).2
    cases ex : (cellsFrom (h.objs.size + 1) names []).lookup x with
    | some c₁ =>
      rw [ex] at hx; cases hx
      cases ey : (cellsFrom (h.objs.size + 1) names []).lookup y with
      | some c₂ =>
        rw [ey] at hy; cases hy
        exact name_of_addr ok.apart (mem_of_lookup ex) (mem_of_lookup ey)
      | none =>
        rw [ey] at hy
        have a := low y c hy
        have b := hi x c ex
        exact absurd (Nat.lt_trans a b) (Nat.lt_irrefl _)
    | none =>
      rw [ex] at hx
      cases ey : (cellsFrom (h.objs.size + 1) names []).lookup y with
      | some c₂ =>
        rw [ey] at hy; cases hy
        have a := low x c hx
        have b := hi y c ey
        exact absurd (Nat.lt_trans a b) (Nat.lt_irrefl _)
      | none =>
        rw [ey] at hy
        exact hin x y c hx hy

/-- which entries a new frame has -/
inductive LayOf (B : Base) (ρp : List (Str × Ent)) : List (Str × NameKind) → List (Str × Ent) → Prop
  | nil : LayOf B ρp [] []
  | loc {x : Str} {ns : List (Str × NameKind)} {ρ : List (Str × Ent)} : LayOf B ρp ns ρ → LayOf B ρp ((x, .local) :: ns) ((x, .un) :: ρ)
  | cell {x : Str} {ns : List (Str × NameKind)} {ρ : List (Str × Ent)} : LayOf B ρp ns ρ → LayOf B ρp ((x, .cell) :: ns) ((x, .un) :: ρ)
  | free {x : Str} {e : Ent} {ns : List (Str × NameKind)} {ρ : List (Str × Ent)} : (x, e) ∈ ρp → e.known = true → LayOf B ρp ns ρ → LayOf B ρp ((x, .free) :: ns) ((x, e.ro) :: ρ)
  | glob {x : Str} {v : Value} {ns : List (Str × NameKind)} {ρ : List (Str × Ent)} : GlobIs B x v → LayOf B ρp ns ρ → LayOf B ρp ((x, .globalImplicit) :: ns) ((x, .gl v) :: ρ)
theorem LayOf.keys {B : Base} {ρp : List (Str × Ent)} {ns : List (Str × NameKind)} {ρ : List (Str × Ent)} (h : LayOf B ρp ns ρ) : (ρ.map (·.1)).Sublist (ns.map (·.1)) := by
  induction h with
  | nil => exact .slnil
  | loc _ ih => exact .cons_cons _ ih
  | cell _ ih => exact .cons_cons _ ih
  | free _ _ _ ih => exact .cons_cons _ ih
  | glob _ _ ih => exact .cons_cons _ ih
theorem LayOf.cases {B : Base} {ρp : List (Str × Ent)} {ns : List (Str × NameKind)} {ρ : List (Str × Ent)} (h : LayOf B ρp ns ρ) : ∀ p ∈ ρ, (p.2 = .un ∧ ((p.1, NameKind.local) ∈ ns ∨ (p.1, NameKind.cell) ∈ ns)) ∨ ((p.1, NameKind.free) ∈ ns ∧ ∃ e, (p.1, e) ∈ ρp ∧ e.known = true ∧ p.2 = e.ro) ∨ ((p.1, NameKind.globalImplicit) ∈ ns ∧ ∃ v, p.2 = .gl v ∧ GlobIs B p.1 v) := by
  induction h with
  | nil => intro p hp; cases hp
  | loc _ ih =>
    intro p hp
    rcases List.mem_cons.mp hp with rfl | hp
    · exact .inl ⟨rfl, .inl (.head _)⟩
    · rcases ih p hp with ⟨a, b | b⟩ | ⟨a, b⟩ | ⟨a, b⟩
      · exact .inl ⟨a, .inl (.tail _ b)⟩
      · exact .inl ⟨a, .inr (.tail _ b)⟩
      · exact .inr (.inl ⟨.tail _ a, b⟩)
      · exact .inr (.inr ⟨.tail _ a, b⟩)
  | cell _ ih =>
    intro p hp
    rcases List.mem_cons.mp hp with rfl | hp
    · exact .inl ⟨rfl, .inr (.head _)⟩
    · rcases ih p hp with ⟨a, b | b⟩ | ⟨a, b⟩ | ⟨a, b⟩
      · exact .inl ⟨a, .inl (.tail _ b)⟩
      · exact .inl ⟨a, .inr (.tail _ b)⟩
      · exact .inr (.inl ⟨.tail _ a, b⟩)
      · exact .inr (.inr ⟨.tail _ a, b⟩)
  | free hm hkn _ ih =>
    intro p hp
    rcases List.mem_cons.mp hp with rfl | hp
    · exact .inr (.inl ⟨.head _, _, hm, hkn, rfl⟩)
    · rcases ih p hp with ⟨a, b | b⟩ | ⟨a, b⟩ | ⟨a, b⟩
      · exact .inl ⟨a, .inl (.tail _ b)⟩
      · exact .inl ⟨a, .inr (.tail _ b)⟩
      · exact .inr (.inl ⟨.tail _ a, b⟩)
      · exact .inr (.inr ⟨.tail _ a, b⟩)
  | glob hg _ ih =>
    intro p hp
    rcases List.mem_cons.mp hp with rfl | hp
    · exact .inr (.inr ⟨.head _, _, rfl, hg⟩)
    · rcases ih p hp with ⟨a, b | b⟩ | ⟨a, b⟩ | ⟨a, b⟩
      · exact .inl ⟨a, .inl (.tail _ b)⟩
      · exact .inl ⟨a, .inr (.tail _ b)⟩
      · exact .inr (.inl ⟨.tail _ a, b⟩)
      · exact .inr (.inr ⟨.tail _ a, b⟩)

theorem LayOf.loc_mem {B : Base} {ρp : List (Str × Ent)} {ns : List (Str × NameKind)} {ρ : List (Str × Ent)} (h : LayOf B ρp ns ρ) : ∀ x, (x, NameKind.local) ∈ ns → (x, Ent.un) ∈ ρ := by
  induction h with
  | nil => intro x hx; cases hx
  | loc _ ih =>
    intro x hx
    rcases List.mem_cons.mp hx with e | hx
    · cases e; exact .head _
    · exact .tail _ (ih x hx)
  | cell _ ih =>
    intro x hx
    rcases List.mem_cons.mp hx with e | hx
    · cases e
    · exact .tail _ (ih x hx)
  | free _ _ _ ih =>
    intro x hx
    rcases List.mem_cons.mp hx with e | hx
    · cases e
    · exact .tail _ (ih x hx)
  | glob _ _ ih =>
    intro x hx
    rcases List.mem_cons.mp hx with e | hx
    · cases e
    · exact .tail _ (ih x hx)
theorem LayOf.free_mem {B : Base} {ρp : List (Str × Ent)} {ns : List (Str × NameKind)} {ρ : List (Str × Ent)} (h : LayOf B ρp ns ρ) : ∀ x, (x, NameKind.free) ∈ ns → ∃ e, (x, e) ∈ ρp ∧ e.known = true := by
  induction h with
  | nil => intro x hx; cases hx
  | loc _ ih =>
    intro x hx
    rcases List.mem_cons.mp hx with e | hx
    · cases e
    · exact ih x hx
  | cell _ ih =>
    intro x hx
    rcases List.mem_cons.mp hx with e | hx
    · cases e
    · exact ih x hx
  | free hm hk _ ih =>
    intro x hx
    rcases List.mem_cons.mp hx with e | hx
    · cases e; exact ⟨_, hm, hk⟩
    · exact ih x hx
  | glob _ _ ih =>
    intro x hx
    rcases List.mem_cons.mp hx with e | hx
    · cases e
    · exact ih x hx
/-- names whose cells a block within may take -/
def closable (ns : List (Str × NameKind)) : List Str := ns.filterMap fun p => match p.2 with | .cell => some p.1 | .free => some p.1 | _ => Option.none
theorem closable_mem {ns : List (Str × NameKind)} {x : Str} (h : x ∈ closable ns) : (x, NameKind.cell) ∈ ns ∨ (x, NameKind.free) ∈ ns := by
  unfold closable at h
  rw [List.mem_filterMap] at h
  obtain ⟨⟨y, k⟩, hm, e⟩ := h
  cases k <;> simp at e
  · subst e; exact .inl hm
  · subst e; exact .inr hm
theorem Ent.ro_rw (e : Ent) : e.ro.rw = false := by cases e <;> rfl
theorem Ent.ro_own (e : Ent) (a : Addr) (ns : List Int) : e.ro ≠ .own a ns := by cases e <;> intro h <;> cases h

/-- a new frame is in order -/
theorem ok_new {X : Cx} {W : List Addr} {P : List Pr} {names : List (Str × NameKind)} {closure : List (Str × Addr)} {ρp ρ : List (Str × Ent)} {s₃ : Shared} {h' : Heap} {tk : Nat} {L : Addr} {cells : List (Str × Addr)}
    (k : SExt [] X.sE s₃) (nd : (names.map (·.1)).Nodup) (la : Laid1 s₃.heap names closure h' L cells) (lo : LayOf X.B ρp names ρ) (hL : X.env.locals = L) (hC : X.env.cells = cells)
    (kl : ∀ x, (x, NameKind.local) ∈ names → X.env.kindOf x = some .local) (kc : ∀ x, (x, NameKind.cell) ∈ names → X.env.kindOf x = some .cell)
    (kg : ∀ x, (x, NameKind.globalImplicit) ∈ names → X.env.kindOf x = some .globalImplicit)
    (kf : ∀ x, (x, NameKind.free) ∈ names → X.env.kindOf x = some .cell ∨ X.env.kindOf x = some .free)
    (fr : ∀ x e, (x, e) ∈ ρp → e.known = true → (x, NameKind.free) ∈ names → ∃ c v, closure.lookup x = some c ∧ s₃.heap.IsCell c (some v) ∧ EntOk X.sE.heap W s₃.heap (some v) e.ro)
    (wal : ∀ a ∈ W, ∃ o, s₃.heap.get? a = some o) (pr : Prot P W s₃.heap) : OkP X W P ρ { s₃ with heap := h', toks := tk } := by
  refine ⟨⟨⟨k.ext.wider.trans (.of_keep la.keep), k.gens, k.os⟩, nd.sublist lo.keys, fun p hp => ?_, fun p hp q hq a ns b ms e1 e2 => ?_, fun a ha => let ⟨o, e⟩ := wal a ha; ⟨o, la.keep a o e⟩⟩, pr.keep la.keep⟩
  · rcases lo.cases p hp with ⟨hu, hk | hk⟩ | ⟨hk, e, hm, hkn, he⟩ | ⟨hk, v, hv, hg⟩
    · refine .inr ⟨⟨Option.none, .inl ⟨kl _ hk, _, hL ▸ la.ns, rfl⟩, by rw [hu]; trivial⟩, fun _ => ⟨fun _ => hL ▸ k.ext.fresh la.fresh, (fun z => by rw [kl _ hk] at z; cases z), (fun c z => by rw [kl _ hk] at z; cases z)⟩⟩
    · obtain ⟨c, h1, h2, h3⟩ := la.cell _ hk
      refine .inr ⟨⟨Option.none, .inr ⟨.inl (kc _ hk), c, hC ▸ h1, h2⟩, by rw [hu]; trivial⟩, fun _ => ⟨(fun z => by rw [kc _ hk] at z; cases z), (fun z => by rw [kc _ hk] at z; cases z), fun c' z z' => ?_⟩⟩
      rw [hC, h1] at z'; cases z'; exact k.ext.fresh h3
    · obtain ⟨c, v, h1, h2, h3⟩ := fr _ _ hm hkn hk
      refine .inr ⟨⟨some v, .inr ⟨kf _ hk, c, by rw [hC, la.free _ hk]; exact h1, h2.keeps la.keep⟩, by rw [he]; exact h3.keep la.keep⟩, fun z => ?_⟩
      rw [he, Ent.ro_rw] at z; cases z
    · exact .inl ⟨v, hv, kg _ hk, hg⟩
  · rcases lo.cases p hp with ⟨hu, _⟩ | ⟨_, e, _, _, he⟩ | ⟨_, v, hv, _⟩
    · rw [hu] at e1; cases e1
    · rw [he] at e1; exact absurd e1 (Ent.ro_own _ _ _)
    · rw [hv] at e1; cases e1

/-- the parameters, one by one -/
inductive PutAll : List (Str × Ent) → List (Str × Value) → List (Bool × D) → List (Str × Ent) → Prop
  | nil {ρ : List (Str × Ent)} : PutAll ρ [] [] ρ
  | val {ρ ρ' ρ'' : List (Str × Ent)} {x : Str} {v : Value} {d : D} {bs : List (Str × Value)} {ds : List (Bool × D)} : Put ρ x (.val true d) ρ' → PutAll ρ' bs ds ρ'' → PutAll ρ ((x, v) :: bs) ((true, d) :: ds) ρ''
  | tmp {ρ ρ' ρ'' : List (Str × Ent)} {x : Str} {v : Value} {d : D} {bs : List (Str × Value)} {ds : List (Bool × D)} : Put ρ x (.tmp true d) ρ' → PutAll ρ' bs ds ρ'' → PutAll ρ ((x, v) :: bs) ((false, d) :: ds) ρ''
/-- handed values: true: to keep -/
inductive Hand (hE : Heap) (W : List Addr) (h : Heap) : List Value → List (Bool × D) → Prop
  | nil : Hand hE W h [] []
  | val {v : Value} {d : D} {vs : List Value} {ds : List (Bool × D)} : Rep W h v d → Hand hE W h vs ds → Hand hE W h (v :: vs) ((true, d) :: ds)
  | tmp {v : Value} {d : D} {vs : List Value} {ds : List (Bool × D)} : RepT W h v d → (∀ b, v = .ref b → ∃ o, hE.get? b = some o) → Hand hE W h vs ds → Hand hE W h (v :: vs) ((false, d) :: ds)
theorem Hand.keep {hE : Heap} {W : List Addr} {h h' : Heap} {vs : List Value} {ds : List (Bool × D)} (x : Hand hE W h vs ds) (k : ∀ b o, h.get? b = some o → h'.get? b = some o) : Hand hE W h' vs ds := by
  induction x with
  | nil => exact .nil
  | val r _ ih => exact .val (r.keep k) ih
  | tmp r e _ ih => exact .tmp (r.keep k) e ih
end Mine



namespace Mine
open PySem PyProof.Rows

theorem zip_lookup_some : ∀ (ns : List Str) (vs : List Value), vs.length = ns.length → ∀ n ∈ ns, ((ns.zip vs).lookup n).isNone = false
  | [], _, _, n, h => by cases h
  | x :: ns, [], hl, n, h => by simp at hl
  | x :: ns, v :: vs, hl, n, h => by
    rw [List.zip_cons_cons, List.lookup_cons]
    cases e : n == x with
    | true => rfl
    | false =>
      rcases List.mem_cons.mp h with rfl | h
      · simp at e
      · exact zip_lookup_some ns vs (by simpa using hl) n h
theorem zip_filterMap : ∀ (ns : List Str) (vs : List Value), vs.length = ns.length → ns.Nodup → ns.filterMap (fun n => ((ns.zip vs).lookup n).map (n, ·)) = ns.zip vs
  | [], _, _, _ => rfl
  | x :: ns, [], hl, _ => by simp at hl
  | x :: ns, v :: vs, hl, nd => by
    rw [List.nodup_cons] at nd
    rw [List.zip_cons_cons, List.filterMap_cons]
    simp only [List.lookup_cons, beq_self_eq_true, Option.map_some]
    congr 1
    have ih := zip_filterMap ns vs (by simpa using hl) nd.2
    have key : ∀ (l : List Str) (f g : Str → Option (Str × Value)), (∀ n ∈ l, f n = g n) → l.filterMap f = l.filterMap g := by
      intro l f g h
      induction l with
      | nil => rfl
      | cons a l ih => rw [List.filterMap_cons, List.filterMap_cons, h a (.head _), ih fun n hn => h n (.tail _ hn)]
    refine Eq.trans (key _ _ _ fun n hn => ?_) ih
    have : (n == x) = false := by
      simp only [beq_eq_false_iff_ne, ne_eq]
      intro e; subst e; exact nd.1 hn
    rw [this]

theorem bind_plain {fd : FuncData} {as : List Arg} {vs : List Value} (hp : fd.params = ⟨[], as, Option.none, [], [], Option.none, []⟩) (hd : fd.defaults = .none) (hl : vs.length = as.length) (nd : (as.map (·.arg)).Nodup) :
    bindArgs fd ⟨vs, []⟩ = pure ((as.map (·.arg)).zip vs) := by
  have hl' : vs.length = (as.map (·.arg)).length := by rw [List.length_map]; exact hl
  have hm : (as.map (·.arg)).filter (fun n => (((as.map (·.arg)).zip vs).lookup n).isNone) = [] := by
    rw [List.filter_eq_nil_iff]
    intro n hn
    rw [zip_lookup_some _ _ hl' n hn]
    exact Bool.false_ne_true
  have h0 : seqItems? Value.none = pure Option.none := rfl
  have hgt : (decide (vs.length > (as.map (·.arg)).length) && true) = false := by
    rw [Bool.and_true]; exact decide_eq_false (by omega)
  have htk : List.take ((as.map (·.arg)).length) (as.map (·.arg)) = as.map (·.arg) := List.take_of_length_le (Nat.le_refl _)
  unfold bindArgs
  rw [hp, hd]
  simp only [h0, List.map_nil, List.nil_append, List.forIn_nil, pure_bind, Option.getD_none, List.length_nil, List.append_nil, Option.isNone_none, hgt, Bool.false_eq_true, if_false, Nat.zero_sub, List.drop_zero, Nat.sub_zero, htk, hm, List.isEmpty_nil, Bool.not_true]
  simp only [List.drop_nil, List.zip_nil_right, List.forIn_nil, pure_bind, List.isEmpty_nil, Bool.not_true, Bool.false_eq_true, if_false]
  rw [zip_filterMap _ _ hl' nd]

/-- a function's object -/
structure FnIn (h : Heap) (a : Addr) (fd : FuncData) : Prop where
  obj : ∃ o, h.get? a = some o ∧ o.data = .func fd
  code : h.CodeRec fd.code fd.qualname
  globals : fd.globals = mainGlobals
  builtins : fd.builtins = builtinsNs
  kind : fd.scope.kind = .function
  co : fd.scope.isCoroutine = false
  gen : fd.scope.isGenerator = false
  nd : (fd.scope.names.map (·.1)).Nodup
theorem FnIn.keep {h h' : Heap} {a : Addr} {fd : FuncData} (x : FnIn h a fd) (k : ∀ b o, h.get? b = some o → h'.get? b = some o) : FnIn h' a fd :=
  { x with obj := (let ⟨o, e, r⟩ := x.obj; ⟨o, k _ _ e, r⟩), code := x.code.keeps k }

structure Room (A : Around) (n : Nat) : Prop where
  hnd : A.handled = Option.none
  dep : A.depth + n < recursionLimit
  uni : A.units + 8 * n + 100 < cLine
theorem Fine.room {X : Cx} (F : Fine X) : Room X.A X.n := ⟨F.hnd, F.dep, F.uni⟩
theorem Room.less {A : Around} {n m : Nat} (h : Room A n) (hm : m ≤ n) : Room A m := ⟨h.hnd, by have := h.dep; omega, by have := h.uni; omega⟩
theorem Room.deeper {A : Around} {n : Nat} (h : Room A (n + 1)) (env : Env) : Room (A.deeper env) n :=
  ⟨h.hnd, by have := h.dep; show A.depth + 1 + n < _; omega, by have := h.uni; show A.units + 3 + 8 * n + 100 < _; omega⟩

/-- the closure's cells -/
structure CloOk (W : List Addr) (h : Heap) (clo : List (Str × Addr)) (ρp : List (Str × Ent)) : Prop where
  inj : ∀ x y c, clo.lookup x = some c → clo.lookup y = some c → x = y
  al : ∀ x c, clo.lookup x = some c → ∃ o, h.get? c = some o
  ent : ∀ x e, (x, e) ∈ ρp → e.known = true → ∃ c v, clo.lookup x = some c ∧ h.IsCell c (some v) ∧ EntOk h W h (some v) e.ro
theorem CloOk.nil {W : List Addr} {h : Heap} : CloOk W h [] [] := ⟨(fun _ _ _ e => by cases e), (fun _ _ e => by cases e), (fun _ _ e => by cases e)⟩

theorem Hand.moved {hE : Heap} {W : List Addr} {h h' : Heap} {vs : List Value} {ds : List (Bool × D)} (x : Hand hE W h vs ds) (m : Moved h h') : Hand hE W h' vs ds := by
  induction x with
  | nil => exact .nil
  | val r _ ih => exact .val (r.moved m) ih
  | tmp r e _ ih => exact .tmp (r.moved m) e ih

theorem puts_ok {X : Cx} {A : Around} {W : List Addr} {P : List Pr} (F : Fine X) (f : Str × Value → PUnit → Sem (ForInStep PUnit)) (hf : ∀ n v u, f (n, v) u = (do storeName X.env n v; pure (.yield ⟨⟩)))
    {ρ ρ' : List (Str × Ent)} {binds : List (Str × Value)} {ds : List (Bool × D)} (s : Shared) (Q : PUnit → Shared → Prop) (pa : PutAll ρ binds ds ρ') (hs : OkP X W P ρ s) (hd : Hand X.sE.heap W s.heap (binds.map (·.2)) ds)
    (q : ∀ s', OkP X W P ρ' s' → Q ⟨⟩ s') : wpAny X.M A (forIn binds ⟨⟩ f) Q NoE s := by
  induction pa generalizing s with
  | nil => rw [List.forIn_nil]; exact wpAny_pure (q s hs)
  | val hp _ ih =>
    rw [List.forIn_cons, hf]
    cases hd with
    | val r hd => exact wpAny_bind (wpAny_bind (store_val F hs hp r fun s' ok m => wpAny_pure (ih s' ok (hd.moved m) q)))
  | tmp hp _ ih =>
    rw [List.forIn_cons, hf]
    cases hd with
    | tmp r ex hd => exact wpAny_bind (wpAny_bind (store_tmp F hs hp r ex fun s' ok m => wpAny_pure (ih s' ok (hd.moved m) q)))

/-- a new frame for a function -/
theorem env_fn {B : Base} {A : Around} {n : Nat} {T : List Addr} {s : Shared} {a : Addr} {fd : FuncData} {binds : List (Str × Value)} {ds : List (Bool × D)} {ρp ρ₀ ρ₁ : List (Str × Ent)} {W : List Addr} {A' : Around} {Q : Env → Shared → Prop}
    (rm : Room A (n + 1)) (tsub : ∀ a ∈ T, a ∈ B.T) (start : Ext B.T B.h₁ s.heap) (fn : FnIn s.heap a fd) (clo : CloOk W s.heap fd.closure ρp) (lo : LayOf B ρp fd.scope.names ρ₀) (pa : PutAll ρ₀ binds ds ρ₁) (hand : Hand s.heap W s.heap (binds.map (·.2)) ds)
    (wal : ∀ a ∈ W, ∃ o, s.heap.get? a = some o)
    (q : ∀ env s', Fine ⟨B, A.deeper env, env, s, n, T, closable fd.scope.names⟩ → OkP ⟨B, A.deeper env, env, s, n, T, closable fd.scope.names⟩ W [] ρ₁ s' → Q env s') :
    wpAny (model B.prog B.w) A' (newFunctionEnv fd.scope fd.globals fd.closure binds (fd.qualname ++ ".<locals>.") (some a) fd.code Option.none fd.builtins) Q NoE s := by
  simp only [newFunctionEnv, Option.isSome_none, Bool.false_eq_true, if_false]
  refine wpAny_bind (wpAny_alloc ?_)
  refine wpAny_bind (wpAny_layCells _ (fun name kind cells => by cases hkc : kind == NameKind.cell <;> simp [hkc]) _ _ _ _ ?_)
  rw [show ({ s with heap := s.heap.push { cls := .type "frame", data := .dict #[] } } : Shared).heap.objs.size = s.heap.objs.size + 1 from Heap.size_push ..]
  have la := laid1 (h := s.heap) (names := fd.scope.names) (closure := fd.closure) fn.nd (.type "frame") clo.inj clo.al
  generalize hcs : cellsFrom (s.heap.objs.size + 1) fd.scope.names fd.closure = cells at la ⊢
  generalize henv : ({ scope := fd.scope, locals := s.heap.objs.size, globals := fd.globals, cells := cells, qual := fd.qualname ++ ".<locals>.", func := some a, code := fd.code, frame := some s.heap.objs.size, builtins := fd.builtins } : Env) = env
  have esc : env.scope = fd.scope := by rw [← henv]
  have elo : env.locals = s.heap.objs.size := by rw [← henv]
  have ece : env.cells = cells := by rw [← henv]
  have kk : ∀ x k, (x, k) ∈ fd.scope.names → env.kindOf x = some k := fun x k h => by unfold Env.kindOf; rw [esc]; exact nodup_lookup fn.nd h
  have F : Fine ⟨B, A.deeper env, env, s, n, T, closable fd.scope.names⟩ := ⟨by rw [esc]; exact fn.kind, by rw [← henv]; exact fn.globals, by rw [← henv]; exact fn.builtins, start, tsub, (fun x hx => by
    rcases closable_mem hx with h | h
    · exact .inl (kk x _ h)
    · exact .inr (kk x _ h)), rm.hnd, (rm.deeper env).dep, (rm.deeper env).uni, fun x y c h1 h2 => la.inj x y c (by rw [← ece]; exact h1) (by rw [← ece]; exact h2)⟩
  have ok : OkP ⟨B, A.deeper env, env, s, n, T, closable fd.scope.names⟩ W [] ρ₀ { s with heap := _, toks := s.toks } :=
    ok_new (X := ⟨B, A.deeper env, env, s, n, T, closable fd.scope.names⟩) (s₃ := s) (SExt.refl _ _) fn.nd la lo elo ece (fun x h => kk x _ h) (fun x h => kk x _ h) (fun x h => kk x _ h) (fun x h => .inr (kk x _ h)) (fun x e hm hk _ => clo.ent x e hm hk) wal fun p hp => (nomatch hp)
  refine wpAny_bind ?_
  exact puts_ok (A := A') F _ (fun _ _ _ => rfl) _ _ pa ok (hand.keep la.keep) fun s' ok' => wpAny_pure (q env s' F ok')
end Mine



namespace Mine
open PySem PyProof.Rows

structure FnB (B : Base) (a : Addr) (fd : FuncData) : Prop where
  fn : FnIn B.h₁ a fd
  ad : a ∉ B.T
  cd : ∀ c, fd.code = .ref c → c ∉ B.T
theorem FnB.at {B : Base} {a : Addr} {fd : FuncData} (x : FnB B a fd) {h : Heap} (k : Ext B.T B.h₁ h) : FnIn h a fd :=
  { x.fn with
    obj := (let ⟨o, e, r⟩ := x.fn.obj; ⟨o, k.keep _ _ x.ad e, r⟩)
    code := (let ⟨c, o, vs, t, e, g, r⟩ := x.fn.code; ⟨c, o, vs, t, e, k.keep _ _ (x.cd c e) g, r⟩) }

theorem call_fn {B : Base} {A : Around} {n : Nat} {T : List Addr} {s : Shared} {a : Addr} {fd : FuncData} {body : List Stmt} {vs : List Value} {binds : List (Str × Value)} {ds : List (Bool × D)} {ρp ρ₀ ρ₁ : List (Str × Ent)} {W : List Addr} {R : Result → Shared → Prop}
    (rm : Room A (n + 1)) (tsub : ∀ a ∈ T, a ∈ B.T) (start : Ext B.T B.h₁ s.heap) (fn : FnIn s.heap a fd) (hbody : fd.body = .stmts body) (hbind : bindArgs fd ⟨vs, []⟩ = pure binds) (clo : CloOk W s.heap fd.closure ρp) (lo : LayOf B ρp fd.scope.names ρ₀)
    (pa : PutAll ρ₀ binds ds ρ₁) (hand : Hand s.heap W s.heap (binds.map (·.2)) ds) (wal : ∀ a ∈ W, ∃ o, s.heap.get? a = some o)
    (run : ∀ env s', Fine ⟨B, A.deeper env, env, s, n, T, closable fd.scope.names⟩ → OkP ⟨B, A.deeper env, env, s, n, T, closable fd.scope.names⟩ W [] ρ₁ s' →
      wpAny (model B.prog B.w) (A.deeper env) (execs body env) (fun f s'' => R (.ok (.ret (match f with | .ret v => v | _ => .none))) s'') NoE s') :
    codeAny (model B.prog B.w) A (.call (.ref a) ⟨vs, []⟩) R s := by
  obtain ⟨o, ho, hd⟩ := fn.obj
  refine codeAny_call_function (by have := rm.dep; omega) ho hd fn.co fn.gen hbody fn.code ?_
  rw [hbind]
  refine wpAny_pure (wpAny_mono (env_fn rm tsub start fn clo lo pa hand wal (Q := fun env s₂ => s₂.heap.NoLimit ∧ codeAny (model B.prog B.w) A (.func body env) R s₂) fun env s' F ok => ⟨ok.ok.lim F, codeAny_func (wpAny_mono (run env s' F ok) (fun _ _ h => h) fun _ _ h => h.elim)⟩) (fun _ _ h => h) fun _ _ h => h.elim)

theorem call_lam {B : Base} {A : Around} {n : Nat} {T : List Addr} {s : Shared} {a : Addr} {fd : FuncData} {body : Expr} {vs : List Value} {binds : List (Str × Value)} {ds : List (Bool × D)} {ρp ρ₀ ρ₁ : List (Str × Ent)} {W : List Addr} {R : Result → Shared → Prop}
    (rm : Room A (n + 1)) (tsub : ∀ a ∈ T, a ∈ B.T) (start : Ext B.T B.h₁ s.heap) (fn : FnIn s.heap a fd) (hbody : fd.body = .expr body) (hbind : bindArgs fd ⟨vs, []⟩ = pure binds) (clo : CloOk W s.heap fd.closure ρp) (lo : LayOf B ρp fd.scope.names ρ₀)
    (pa : PutAll ρ₀ binds ds ρ₁) (hand : Hand s.heap W s.heap (binds.map (·.2)) ds) (wal : ∀ a ∈ W, ∃ o, s.heap.get? a = some o)
    (run : ∀ env s', Fine ⟨B, A.deeper env, env, s, n, T, closable fd.scope.names⟩ → OkP ⟨B, A.deeper env, env, s, n, T, closable fd.scope.names⟩ W [] ρ₁ s' →
      wpAny (model B.prog B.w) (A.deeper env) (eval body env) (fun v s'' => R (.ok (.ret v)) s'') NoE s') :
    codeAny (model B.prog B.w) A (.call (.ref a) ⟨vs, []⟩) R s := by
  obtain ⟨o, ho, hd⟩ := fn.obj
  refine codeAny_of_tree ?_
  show wpAny _ A.in1 (callAny (.ref a) ⟨vs, []⟩) _ _ s
  simp only [callAny]
  refine wpAny_bind (wpAny_load ho ?_)
  obtain ⟨c, oc, vs', tq, hc, hoc, hdc, hq⟩ := id fn.code
  simp only [hd, callFunction, fn.co, fn.gen, hbody]
  rw [hc]
  refine wpAny_bind (m := field (.ref c) 1) (wpAny_field hoc hdc hq (wpAny_bind (wpAny_pure ?_)))
  rw [hbind]
  refine wpAny_bind (wpAny_pure (wpAny_bind ?_))
  rw [← hc]
  refine wpAny_mono (env_fn rm tsub start fn clo lo pa hand wal (Q := fun env s₂ => s₂.heap.NoLimit ∧ codeAny (model B.prog B.w) A (.expr body env) R s₂) fun env s' F ok => ⟨ok.ok.lim F, ?_⟩) (fun env s₂ h₂ => wpAny_bind (wpAny_enterFrame h₂.1 (by have := rm.dep; show A.depth < _; omega) (wpAny_pure (And.intro rfl h₂.2)))) fun _ _ h => h.elim
  refine codeAny_of_tree ?_
  show wpAny _ (A.deeper env) (do point; ret (← (eval body env).onRaise (leaving env))) _ _ s'
  exact wpAny_bind (wpAny_point (wpAny_bind (wpAny_onRaise (wpAny_mono (run env s' F ok) (fun _ _ h => wpAny_pure h) fun _ _ h => h.elim))))

def D.kept : D → Bool
  | .list _ => false
  | _ => true
def flags (ds : List D) : List (Bool × D) := ds.map fun d => (d.kept, d)
theorem RepTs.hand {W : List Addr} {h : Heap} {vs : List Value} {ds : List D} (x : RepTs W h vs ds) : Hand h W h vs (flags ds) := by
  induction x with
  | nil => exact .nil
  | @cons v d vs ds r _ ih =>
    cases d with
    | list es => exact .tmp r (fun b e => by obtain ⟨a, us, e', ⟨_, ho⟩, _⟩ := r; rw [e] at e'; cases e'; exact ⟨_, ho⟩) ih
    | _ => exact .val r ih
theorem RepTs.length {W : List Addr} {h : Heap} {vs : List Value} {ds : List D} (x : RepTs W h vs ds) : vs.length = ds.length := by
  induction x with
  | nil => rfl
  | cons _ _ ih => rw [List.length_cons, List.length_cons, ih]
theorem zip_snd : ∀ (ns : List Str) (vs : List Value), vs.length = ns.length → (ns.zip vs).map (·.2) = vs
  | [], [], _ => rfl
  | [], _ :: _, h => by simp at h
  | _ :: _, [], h => by simp at h
  | x :: ns, v :: vs, h => by rw [List.zip_cons_cons, List.map_cons, zip_snd ns vs (by simpa using h)]

/-- entries of the parameters -/
inductive Puts : List (Str × Ent) → List Str → List D → List (Str × Ent) → Prop
  | nil {ρ : List (Str × Ent)} : Puts ρ [] [] ρ
  | cons {ρ ρ' ρ'' : List (Str × Ent)} {x : Str} {d : D} {e : Ent} {ns : List Str} {ds : List D} : Put ρ x e ρ' → (e = if d.kept then .val true d else .tmp true d) → Puts ρ' ns ds ρ'' → Puts ρ (x :: ns) (d :: ds) ρ''
theorem Puts.all {ρ ρ' : List (Str × Ent)} {ns : List Str} {ds : List D} (h : Puts ρ ns ds ρ') : ∀ {vs : List Value}, vs.length = ds.length → PutAll ρ (ns.zip vs) (flags ds) ρ' := by
  induction h with
  | nil => intro vs hl; cases vs <;> first | exact .nil | simp at hl
  | @cons ρ ρ' ρ'' x d e ns ds hp he _ ih =>
    intro vs hl
    cases vs with
    | nil => simp at hl
    | cons v vs =>
      rw [List.zip_cons_cons]
      show PutAll ρ ((x, v) :: ns.zip vs) ((d.kept, d) :: flags ds) ρ''
      subst he
      cases hk : d.kept with
      | true => rw [hk] at hp; exact .val hp (ih (by simpa using hl))
      | false => rw [hk] at hp; exact .tmp hp (ih (by simpa using hl))
theorem Puts.len {ρ ρ' : List (Str × Ent)} {ns : List Str} {ds : List D} (h : Puts ρ ns ds ρ') : ns.length = ds.length := by
  induction h with
  | nil => rfl
  | cons _ _ _ ih => rw [List.length_cons, List.length_cons, ih]

theorem Post.back {l : Lv} {W : List Addr} {s s₁ : Shared} {v : Value} {h' : Heap} {d : D} (k : SExt [] s s₁) (x : Post l W s₁.heap v h' d) : Post l W s.heap v h' d := by
  cases l with
  | t => exact x
  | s => exact x
  | f => exact ⟨x.1, fun a e => k.ext.fresh (x.2 a e)⟩

/-- what a call gives -/
def CallV (X : Cx) (W : List Addr) (f : Value) (ds : List D) (l : Lv) (d : D) : Prop :=
  ∀ s ρ vs, Fine X → Ok X W ρ s → RepTs W s.heap vs ds → wpAny X.M X.A (call f vs []) (fun v s' => SExt [] s s' ∧ Post l W s.heap v s'.heap d) NoE s

/-- a def of the text, called: run its body -/
theorem callV_fn {X : Cx} {W : List Addr} {a : Addr} {fd : FuncData} {as : List Arg} {body : List Stmt} {ds : List D} {l : Lv} {d : D} {ρ₀ ρ₁ : List (Str × Ent)} {n : Nat} (hn : n + 1 ≤ X.n)
    (fb : FnB X.B a fd) (hbody : fd.body = .stmts body) (hp : fd.params = ⟨[], as, Option.none, [], [], Option.none, []⟩) (hd : fd.defaults = .none) (hc : fd.closure = [])
    (nd : (as.map (·.arg)).Nodup) (lo : LayOf X.B [] fd.scope.names ρ₀) (pu : Puts ρ₀ (as.map (·.arg)) ds ρ₁)
    (run : ∀ X' s', X'.B = X.B → X'.n = n → X'.T = [] → X'.κ = closable fd.scope.names → Fine X' → (∀ a ∈ W, ∃ o, X'.sE.heap.get? a = some o) → OkP X' W [] ρ₁ s' →
      wpAny X'.M X'.A (execs body X'.env) (fun f s'' => ∃ v, f = .ret v ∧ SExt [] X'.sE s'' ∧ Post l W X'.sE.heap v s''.heap d) NoE s') : CallV X W (.ref a) ds l d := by
  intro s ρ vs F hs hr
  have hl : vs.length = as.length := by rw [hr.length, ← pu.len, List.length_map]
  refine wpAny_call ?_
  refine call_fn (n := n) (T := []) (F.room.less hn) (fun _ h => nomatch h) (hs.base F) (fb.at (hs.base F)) hbody (bind_plain hp hd hl nd) (hc ▸ CloOk.nil) lo (pu.all hr.length) (by rw [zip_snd _ _ (by rw [List.length_map]; exact hl)]; exact hr.hand) hs.wal ?_
  intro env s' F' ok
  refine wpAny_mono (run ⟨X.B, X.A.deeper env, env, s, n, [], closable fd.scope.names⟩ s' rfl rfl rfl rfl F' hs.wal ok) (fun f s'' h => ?_) fun _ _ h => h.elim
  obtain ⟨v, rfl, k, p⟩ := h
  exact ⟨k, p⟩
end Mine



namespace Mine
open PySem PyProof.Rows

def KeepOk (X : Cx) (W : List Addr) (f : Value) : Prop := ∀ s ρ, Fine X → Ok X W ρ s → wpAny X.M X.A (keeperOf f) (fun _ s' => s' = s) NoE s
theorem keepOk_builtin {X : Cx} {W : List Addr} {id : String} : KeepOk X W (.builtin id) := fun s ρ F hs => wpAny_pure rfl
theorem keepOk_type {X : Cx} {W : List Addr} {id : String} : KeepOk X W (.type id) := fun s ρ F hs => wpAny_pure rfl
theorem keepOk_fn {X : Cx} {W : List Addr} {a : Addr} {fd : FuncData} (fb : FnB X.B a fd) : KeepOk X W (.ref a) := fun s ρ F hs => by
  obtain ⟨o, ho, hd⟩ := (fb.at (hs.base F)).obj
  unfold keeperOf
  refine wpAny_bind (wpAny_load ho ?_)
  rw [hd]
  exact wpAny_pure rfl

theorem evalArgs_noStar {M : Model} {A : Around} {E : Value → Shared → Prop} {s : Shared} {f : Value} {args : List (Bool × Sem Value)} {Q : Args → Shared → Prop} (hst : args.any (·.1) = false)
    (h : wpAny M A (spliced args) (fun vs s' => Q ⟨vs, []⟩ s') E s) : wpAny M A (evalArgs f true args []) Q E s := by
  cases args with
  | nil =>
    unfold evalArgs
    show wpAny M A (spliced [] >>= _) Q E s
    exact wpAny_bind (wpAny_mono h (fun vs s' h' => wpAny_holding (wpAny_bind (wpAny_pure (wpAny_bind (wpAny_pure (wpAny_pure h')))))) fun _ _ x => x)
  | cons p rest =>
    obtain ⟨b, x⟩ := p
    rw [List.any_cons, Bool.or_eq_false_iff] at hst
    have hb : b = false := hst.1
    subst hb
    exact Calls.evalArgs_plain h

theorem callWith_V {X : Cx} {W : List Addr} {ρ : List (Str × Ent)} {f : Value} {es : List Expr} {ds : List D} {l : Lv} {d : D} {pos : Pos} {s : Shared} (F : Fine X) (hs : Ok X W ρ s) (ha : EvTs X W ρ es ds) (hc : CallV X W f ds l d) (hk : KeepOk X W f)
    (hst : (backTo pos (starEach es X.env)).any (·.1) = false) : wpAny X.M X.A (callWith pos f [] (backTo pos (starEach es X.env)) []) (fun v s' => SExt [] s s' ∧ Post l W s.heap v s'.heap d) NoE s := by
  unfold callWith
  refine wpAny_bind (wpAny_holding (evalArgs_noStar hst (wpAny_mono (ha pos s hs) (fun vs s₁ h₁ => wpAny_bind (wpAny_standAt ?_)) fun _ _ x => x)))
  have hs₁ := hs.mono h₁.1
  have main : wpAny X.M X.A (call f ([] ++ vs) []) (fun v s' => SExt [] s s' ∧ Post l W s.heap v s'.heap d) NoE s₁ :=
    wpAny_mono (hc s₁ ρ vs F hs₁ h₁.2) (fun v s' h => ⟨h₁.1.trans h.1, h.2.back h₁.1⟩) fun _ _ x => x
  have tail : ∀ {t : Sem Value}, wpAny X.M X.A t (fun v s' => SExt [] s s' ∧ Post l W s.heap v s'.heap d) NoE s₁ → wpAny X.M X.A (t >>= fun r => holding [r] point >>= fun _ => pure r) (fun v s' => SExt [] s s' ∧ Post l W s.heap v s'.heap d) NoE s₁ :=
    fun ht => wpAny_bind (wpAny_mono ht (fun r s₂ hr => wpAny_bind (wpAny_holding (wpAny_point (wpAny_pure hr)))) fun _ _ x => x)
  simp only [hst, List.any_nil, Bool.or_false]
  refine wpAny_bind (wpAny_mono (hk s₁ ρ F hs₁) (fun k s₂ e => ?_) fun _ _ x => x)
  subst e
  cases k with
  | frame =>
    dsimp only
    split
    · exact tail main
    · exact tail (by unfold callMarked; exact Calls.wpAny_keep main)
  | boundFrame =>
    dsimp only
    split
    · exact tail main
    · exact tail (by unfold callMarked; exact Calls.wpAny_keep main)
  | machine => exact tail main
  | caller => exact tail (wpAny_operateT main)

theorem ev_call {X : Cx} {W : List Addr} {ρ : List (Str × Ent)} {g : Str} {p : Pos} {f : Value} {es : List Expr} {ds : List D} {l : Lv} {d : D} {pos : Pos} (F : Fine X) (hf : (g, Ent.gl f) ∈ ρ) (ha : EvTs X W ρ es ds) (hc : CallV X W f ds l d) (hk : KeepOk X W f)
    (hst : ∀ env, (backTo pos (starEach es env)).any (·.1) = false := by intro _; rfl) (hg : okName g = true := by decide +kernel) : Ev X W ρ l (.Call (.Name g p) es [] pos) d := fun s hs => by
  show wpAny X.M X.A (eval (.Name g p) X.env >>= fun v => callWith pos v [] (backTo pos (starEach es X.env)) (backToKw pos (keywordEach [] X.env))) _ _ s
  refine wpAny_bind (wpAny_mono (ev_gl F hf hg s hs) (fun v s₁ h₁ => ?_) fun _ _ x => x)
  have e : v = f := by
    have r : Rep W s₁.heap v (.val f) := h₁.2
    cases r with | val => rfl
  subst e
  exact wpAny_mono (callWith_V F (hs.mono h₁.1) ha hc hk (hst _)) (fun v s' h => ⟨h₁.1.trans h.1, h.2.back h₁.1⟩) fun _ _ x => x

section
variable {X : Cx} {W : List Addr}
theorem repTs_one {h : Heap} {vs : List Value} {d : D} (r : RepTs W h vs [d]) : ∃ v, vs = [v] ∧ RepT W h v d := by
  cases r with | cons a b => cases b; exact ⟨_, rfl, a⟩
theorem repTs_two {h : Heap} {vs : List Value} {d d' : D} (r : RepTs W h vs [d, d']) : ∃ v v', vs = [v, v'] ∧ RepT W h v d ∧ RepT W h v' d' := by
  cases r with | cons a b => cases b with | cons c e => cases e; exact ⟨_, _, rfl, a, c⟩
theorem repTs_three {h : Heap} {vs : List Value} {d d' d'' : D} (r : RepTs W h vs [d, d', d'']) : ∃ v v' v'', vs = [v, v', v''] ∧ RepT W h v d ∧ RepT W h v' d' ∧ RepT W h v'' d'' := by
  cases r with | cons a b => cases b with | cons c e => cases e with | cons g i => cases i; exact ⟨_, _, _, rfl, a, c, g⟩

theorem callV_len {ds : List D} (hz : ds.length ≤ 1000000) : CallV X W (.builtin "len") [.list ds] .f (.int ds.length) := fun s ρ vs F hs hr => by
  obtain ⟨v, rfl, a, us, rfl, hl, r⟩ := repTs_one hr
  refine Calls.call_len_list hl.isList (by rw [List.size_toArray, r.length]; omega) ?_
  have e : ((us.toArray.size : Nat) : Int) = (ds.length : Int) := by rw [List.size_toArray, r.length]
  rw [e]
  exact ⟨sext_toks _ _, .int _ _, fun _ e => by cases e⟩
theorem callV_min {a b : Int} : CallV X W (.builtin "min") [.int a, .int b] .f (.int (if b < a then b else a)) := fun s ρ vs F hs hr => by
  obtain ⟨v, v', rfl, r, r'⟩ := repTs_two hr
  obtain ⟨t, rfl⟩ := repT_int r
  obtain ⟨u, rfl⟩ := repT_int r'
  refine min_two_ints F.hnd fun h' tk hk => ?_
  by_cases c : b < a
  · simp only [if_pos c]; exact ⟨sext_keep _ _ _ hk, .int _ _, fun _ e => by cases e⟩
  · simp only [if_neg c]; exact ⟨sext_keep _ _ _ hk, .int _ _, fun _ e => by cases e⟩
theorem callV_max {a b : Int} : CallV X W (.builtin "max") [.int a, .int b] .f (.int (if b > a then b else a)) := fun s ρ vs F hs hr => by
  obtain ⟨v, v', rfl, r, r'⟩ := repTs_two hr
  obtain ⟨t, rfl⟩ := repT_int r
  obtain ⟨u, rfl⟩ := repT_int r'
  refine max_two_ints F.hnd fun h' tk hk => ?_
  by_cases c : b > a
  · simp only [if_pos c]; exact ⟨sext_keep _ _ _ hk, .int _ _, fun _ e => by cases e⟩
  · simp only [if_neg c]; exact ⟨sext_keep _ _ _ hk, .int _ _, fun _ e => by cases e⟩
theorem callV_abs {a : Int} : CallV X W (.builtin "abs") [.int a] .f (.int (if a < 0 then -a else a)) := fun s ρ vs F hs hr => by
  obtain ⟨v, rfl, r⟩ := repTs_one hr
  obtain ⟨t, rfl⟩ := repT_int r
  exact call_abs_int fun u tk => ⟨sext_toks _ _, .int _ _, fun _ e => by cases e⟩
end
end Mine



namespace Mine
open PySem PyProof.Rows

def rangeD (lo hi : Int) : List D := (List.range (hi - lo).toNat).map fun (i : Nat) => D.int (lo + i)

inductive SrcOk (W : List Addr) (h : Heap) : Value → List D → Prop
  | list {a : Addr} {vs : List Value} {ds : List D} : h.PlainList a vs.toArray → a ∉ W → Reps W h vs ds → SrcOk W h (.ref a) ds
  | range {a : Addr} {lo hi : Int} {t u v : Tok} : IsRange h a lo hi 1 t u v → -(2 ^ 62) ≤ lo → lo < 2 ^ 62 → -(2 ^ 62) ≤ hi → hi < 2 ^ 62 → SrcOk W h (.ref a) (rangeD lo hi)

def Src (X : Cx) (W : List Addr) (ρ : List (Str × Ent)) (e : Expr) (ds : List D) : Prop :=
  ∀ s, Ok X W ρ s → wpAny X.M X.A (eval e X.env) (fun v s' => SExt [] s s' ∧ SrcOk W s'.heap v ds) NoE s

section
variable {X : Cx} {W : List Addr} {ρ : List (Str × Ent)}
theorem src_list {e : Expr} {ds : List D} (h : Ev X W ρ .s e (.list ds)) : Src X W ρ e ds := fun s hs =>
  wpAny_mono (h s hs) (fun v s' k => ⟨k.1, by
    have r : Rep W s'.heap v (.list ds) := k.2
    cases r with | list hl hw hr => exact .list hl hw hr⟩) fun _ _ x => x

/-- a call, any end -/
theorem callWith_Q {f : Value} {args : List (Bool × Sem Value)} {pos : Pos} {s : Shared} {Q : Value → Shared → Prop} {V : List Value → Heap → Prop} (F : Fine X) (hs : Ok X W ρ s)
    (ha : wpAny X.M X.A (spliced args) (fun vs s' => SExt [] s s' ∧ V vs s'.heap) NoE s) (hk : KeepOk X W f)
    (hc : ∀ vs s₁, SExt [] s s₁ → V vs s₁.heap → wpAny X.M X.A (call f vs []) Q NoE s₁)
    (hst : args.any (·.1) = false) : wpAny X.M X.A (callWith pos f [] args []) Q NoE s := by
  unfold callWith
  refine wpAny_bind (wpAny_holding (evalArgs_noStar hst (wpAny_mono ha (fun vs s₁ h₁ => wpAny_bind (wpAny_standAt ?_)) fun _ _ x => x)))
  have hs₁ := hs.mono h₁.1
  have main : wpAny X.M X.A (call f ([] ++ vs) []) Q NoE s₁ := hc vs s₁ h₁.1 h₁.2
  have tail : ∀ {t : Sem Value}, wpAny X.M X.A t Q NoE s₁ → wpAny X.M X.A (t >>= fun r => holding [r] point >>= fun _ => pure r) Q NoE s₁ :=
    fun ht => wpAny_bind (wpAny_mono ht (fun r s₂ hr => wpAny_bind (wpAny_holding (wpAny_point (wpAny_pure hr)))) fun _ _ x => x)
  simp only [hst, List.any_nil, Bool.or_false]
  refine wpAny_bind (wpAny_mono (hk s₁ ρ F hs₁) (fun k s₂ e => ?_) fun _ _ x => x)
  subst e
  cases k with
  | frame =>
    dsimp only
    split
    · exact tail main
    · exact tail (by unfold callMarked; exact Calls.wpAny_keep main)
  | boundFrame =>
    dsimp only
    split
    · exact tail main
    · exact tail (by unfold callMarked; exact Calls.wpAny_keep main)
  | machine => exact tail main
  | caller => exact tail (wpAny_operateT main)

theorem name_Q {g : Str} {p : Pos} {f : Value} {es : List Expr} {pos : Pos} {s : Shared} {Q : Value → Shared → Prop} (F : Fine X) (hs : Ok X W ρ s) (hf : (g, Ent.gl f) ∈ ρ) (hg : okName g = true)
    (h : ∀ s₁, SExt [] s s₁ → wpAny X.M X.A (callWith pos f [] (backTo pos (starEach es X.env)) []) Q NoE s₁) : wpAny X.M X.A (eval (.Call (.Name g p) es [] pos) X.env) Q NoE s := by
  show wpAny X.M X.A (eval (.Name g p) X.env >>= fun v => callWith pos v [] (backTo pos (starEach es X.env)) (backToKw pos (keywordEach [] X.env))) _ _ s
  refine wpAny_bind (wpAny_mono (ev_gl F hf hg s hs) (fun v s₁ h₁ => ?_) fun _ _ x => x)
  have e : v = f := by
    have r : Rep W s₁.heap v (.val f) := h₁.2
    cases r with | val => rfl
  subst e
  exact h s₁ h₁.1

theorem src_range1 {p pos : Pos} {l : Lv} {e : Expr} {n : Int} (F : Fine X) (hm : ((Str.ofString "range" : Str), Ent.gl (.type "range")) ∈ ρ) (h : Ev X W ρ l e (.int n)) (h1 : -(2 ^ 62) ≤ n) (h2 : n < 2 ^ 62)
    (hse : ∀ env, starEach [e] env = [(false, eval e env)] := by intro _; rfl) : Src X W ρ (.Call (.Name (Str.ofString "range") p) [e] [] pos) (rangeD 0 n) := fun s hs => by
  refine name_Q F hs hm (by decide +kernel) fun s₁ k₁ => ?_
  refine callWith_Q (V := fun vs h => RepTs W h vs [.int n]) F (hs.mono k₁) (evTs_cons h evTs_nil (hse _) pos s₁ (hs.mono k₁)) keepOk_type (fun vs s₂ k₂ hv => ?_) (by rw [hse]; rfl)
  obtain ⟨v, rfl, r⟩ := repTs_one hv
  obtain ⟨t, rfl⟩ := repT_int r
  refine call_range_1 ⟨(k₁.trans k₂).trans ⟨(Ext.refl ..).push _, rfl, rfl⟩, ?_⟩
  exact .range (IsRange.new ..) (by decide) (by decide) h1 h2
theorem src_range2 {p pos : Pos} {l l' : Lv} {e e' : Expr} {a n : Int} (F : Fine X) (hm : ((Str.ofString "range" : Str), Ent.gl (.type "range")) ∈ ρ) (h : Ev X W ρ l e (.int a)) (h' : Ev X W ρ l' e' (.int n)) (h3 : -(2 ^ 62) ≤ a) (h4 : a < 2 ^ 62) (h1 : -(2 ^ 62) ≤ n) (h2 : n < 2 ^ 62)
    (hse : ∀ env, starEach [e, e'] env = [(false, eval e env), (false, eval e' env)] := by intro _; rfl) (hse' : ∀ env, starEach [e'] env = [(false, eval e' env)] := by intro _; rfl) : Src X W ρ (.Call (.Name (Str.ofString "range") p) [e, e'] [] pos) (rangeD a n) := fun s hs => by
  refine name_Q F hs hm (by decide +kernel) fun s₁ k₁ => ?_
  refine callWith_Q (V := fun vs h => RepTs W h vs [.int a, .int n]) F (hs.mono k₁) (evTs_cons h (evTs_cons h' evTs_nil (hse' _)) (by rw [hse, hse']) pos s₁ (hs.mono k₁)) keepOk_type (fun vs s₂ k₂ hv => ?_) (by rw [hse]; rfl)
  obtain ⟨v, v', rfl, r, r'⟩ := repTs_two hv
  obtain ⟨t, rfl⟩ := repT_int r
  obtain ⟨u, rfl⟩ := repT_int r'
  refine call_range_2 ⟨(k₁.trans k₂).trans ⟨(Ext.refl ..).push _, rfl, rfl⟩, ?_⟩
  exact .range (IsRange.new ..) h3 h4 h1 h2
end

inductive ItOk (W : List Addr) (h : Heap) (it : Addr) : List Pr → List D → Nat → Prop
  | list {l : Addr} {o : Obj} {vs : List Value} {ds : List D} {i ep : Nat} : h.get? l = some o → o.cls = .type "list" → o.data = .seq vs.toArray ep → l ∉ W → Reps W h vs ds → h.IsListIter it l i → ItOk W h it [.obj l o, .reps vs ds] ds i
  | range {lo : Int} {n i : Nat} : IsRangeIter h it (lo + i) ((n : Int) - i) 1 → ItOk W h it [] ((List.range n).map fun (k : Nat) => D.int (lo + k)) i

theorem ItOk.obj {W : List Addr} {h : Heap} {it : Addr} {G : List Pr} {ds : List D} {i : Nat} (x : ItOk W h it G ds i) : ∃ o vs, h.get? it = some o ∧ o.data = .fields vs := by
  cases x with
  | list _ _ _ _ _ hi => obtain ⟨o, ho, _, hd⟩ := hi; exact ⟨o, _, ho, hd⟩
  | range hi => exact ⟨_, _, hi, rfl⟩
theorem ItOk.prot {W : List Addr} {h h' : Heap} {it : Addr} {G P : List Pr} {ds : List D} {i : Nat} {o : Obj} (x : ItOk W h it G ds i) (ho : h.get? it = some o) (p : Prot (.obj it o :: (G ++ P)) W h') : ItOk W h' it G ds i := by
  have hit : h'.get? it = some o := (p _ (.head _)).1
  cases x with
  | @list l ol vs ds i ep hl hc hd hw hr hi =>
    have p1 : PrOk W h' (.obj l ol) := p _ (.tail _ (.head _))
    have p2 : PrOk W h' (.reps vs ds) := p _ (.tail _ (.tail _ (.head _)))
    obtain ⟨o', ho', hc', hd'⟩ := hi
    rw [ho] at ho'; cases ho'
    exact .list p1.1 hc hd hw p2 ⟨o, hit, hc', hd'⟩
  | range hi =>
    refine .range ?_
    have e : some o = some _ := ho.symm.trans hi
    rw [Option.some.inj e] at hit
    exact hit
theorem ItOk.allProt {W : List Addr} {h : Heap} {it : Addr} {G P : List Pr} {ds : List D} {i : Nat} {o : Obj} (x : ItOk W h it G ds i) (ho : h.get? it = some o) (hw : it ∉ W) (p : Prot P W h) : Prot (.obj it o :: (G ++ P)) W h := by
  obtain ⟨o', vs, ho', hd⟩ := x.obj
  rw [ho] at ho'; cases ho'
  intro q hq
  rcases List.mem_cons.mp hq with rfl | hq
  · exact ⟨ho, hw, .inl ⟨vs, hd⟩⟩
  · rcases List.mem_append.mp hq with hq | hq
    · cases x with
      | list hl hc hd hw hr hi =>
        rcases List.mem_cons.mp hq with rfl | hq
        · exact ⟨hl, hw, .inr ⟨_, _, hd⟩⟩
        · rcases List.mem_cons.mp hq with rfl | hq
          · exact hr
          · cases hq
      | range _ => cases hq
    · exact p q hq

/-- an iterator moves on -/
theorem Holds1.extBut {h h' : Heap} {env : Env} {x : Str} {ov : Option Value} {a : Addr} (y : Holds1 h env x ov) (k : Heap.ExtBut a h h') {o : Obj} {vs : Array Value} (ho : h.get? a = some o) (hd : o.data = .fields vs) : Holds1 h' env x ov := by
  rcases y with ⟨b, m, n, e⟩ | ⟨b, c, e, n⟩
  · refine .inl ⟨b, m, n.extBut k fun z => ?_, e⟩
    obtain ⟨o', es, ep, ho', hd', _⟩ := n
    rw [z, ho] at ho'; cases ho'
    rw [hd] at hd'; cases hd'
  · refine .inr ⟨b, c, e, ?_⟩
    obtain ⟨o', ho', hd'⟩ := n
    refine ⟨o', k _ _ (fun z => ?_) ho', hd'⟩
    rw [z, ho] at ho'; cases ho'
    rw [hd] at hd'; cases hd'
theorem OkP.step {X : Cx} {W : List Addr} {P : List Pr} {ρ : List (Str × Ent)} {s : Shared} {it : Addr} {o : Obj} {vs : Array Value} {h' : Heap} {tk : Nat} (x : OkP X W P ρ s) (ho : s.heap.get? it = some o) (hd : o.data = .fields vs)
    (hfr : X.sE.heap.get? it = Option.none) (hw : it ∉ W) (hp : ∀ o, Pr.obj it o ∉ P) (k : Heap.ExtBut it s.heap h') : OkP X W P ρ { s with heap := h', toks := tk } := by
  have nd : NoData s.heap it := .fields ho hd
  refine ⟨⟨⟨x.ok.ext.ext.extBut hfr k, x.ok.ext.gens, x.ok.ext.os⟩, x.ok.nd, fun p hp => ?_, x.ok.own, fun a ha => ?_⟩, fun p hp' => ?_⟩
  · rcases x.ok.ent p hp with g | ⟨⟨ov, a, b⟩, c⟩
    · exact .inl g
    · exact .inr ⟨⟨ov, a.extBut k ho hd, b.extBut k nd⟩, c⟩
  · obtain ⟨o, e⟩ := x.ok.wal a ha
    exact ⟨o, k _ _ (fun z => hw (z ▸ ha)) e⟩
  · have y := x.prot p hp'
    cases p with
    | obj b o' => exact ⟨k _ _ (fun z => hp o' (z ▸ hp')) y.1, y.2⟩
    | reps vs ds => exact Reps.extBut y k (.inr nd)

theorem it_start {X : Cx} {W : List Addr} {ρ : List (Str × Ent)} {s : Shared} {v : Value} {ds : List D} (F : Fine X) (hs : Ok X W ρ s) (h : SrcOk W s.heap v ds) {Q : Value → Shared → Prop}
    (q : ∀ it G s', SExt [] s s' → ItOk W s'.heap it G ds 0 → s.heap.get? it = Option.none → Q (.ref it) s') : wpAny X.M X.A (pyIter v) Q NoE s := by
  cases h with
  | list hl hw hr =>
    obtain ⟨o, ho, hc, n, hd⟩ := hl.isList
    refine wpAny_pyIter_list hl.isList (q _ _ _ (sext_push _ _) (.list (Heap.get?_push_of_some _ ho) hc hd hw (hr.keep fun b o e => Heap.get?_push_of_some _ e) ⟨_, Heap.get?_push_size _ rfl, rfl, rfl⟩) (get_size _))
  | @range a lo hi t u v hr h1 h2 h3 h4 =>
    refine wpAny_pyIter_range hr (small_one h1 h2 h3 h4) (q _ [] _ (sext_push _ _) ?_ (get_size _))
    refine .range ?_
    have e : Builtin.Range.rangeSize lo hi 1 = (((hi - lo).toNat : Nat) : Int) := rangeSize_nat lo hi
    rw [e]
    have e1 : lo + ((0 : Nat) : Int) = lo := by simp
    have e2 : (((hi - lo).toNat : Nat) : Int) - ((0 : Nat) : Int) = (((hi - lo).toNat : Nat) : Int) := by simp
    rw [e1, e2]
    exact Heap.get?_push_size _ rfl

theorem it_next {X : Cx} {W : List Addr} {P : List Pr} {ρ : List (Str × Ent)} {s : Shared} {it : Addr} {G : List Pr} {ds : List D} {i : Nat} {d : D} (F : Fine X) (ok : OkP X W P ρ s) (hit : ItOk W s.heap it G ds i) (hd : ds[i]? = some d)
    (hfr : X.sE.heap.get? it = Option.none) (hw : it ∉ W) (hp : ∀ o, Pr.obj it o ∉ P) {Q : Option Value → Shared → Prop}
    (q : ∀ v s', OkP X W P ρ s' → ItOk W s'.heap it G ds (i + 1) → Rep W s'.heap v d → Mv s.heap s'.heap → Q (some v) s') : wpAny X.M X.A (pyNext (.ref it)) Q NoE s := by
  cases hit with
  | @list l o vs ds i ep hl hc hdl hlw hr hi =>
    obtain ⟨v, hv, rv⟩ := hr.get hd
    obtain ⟨oi, hoi, hci, hdi⟩ := id hi
    have hli : l ≠ it := fun z => by
      rw [z, hoi] at hl; cases hl
      rw [hdl] at hdi; cases hdi
    refine wpAny_pyNext_list_item hi ⟨o, hl, hc, _, hdl⟩ (by simpa using hv) fun h' hi' hsb => ?_
    have nd : NoData s.heap it := .fields hoi hdi
    refine q v _ (ok.step (tk := s.toks) hoi hdi hfr hw hp hsb.extBut) (.list (hsb.extBut _ _ hli hl) hc hdl hlw (hr.extBut hsb.extBut (.inr nd)) hi') (rv.extBut hsb.extBut (.inr nd)) (Moved.mv ⟨it, hsb.extBut, nd⟩)
  | @range lo n i hi =>
    have hlt : i < n := by
      have := (List.getElem?_eq_some_iff.mp hd).1
      simpa using this
    have he : d = .int (lo + i) := by
      rw [List.getElem?_map, List.getElem?_range hlt] at hd
      cases hd; rfl
    subst he
    refine wpAny_pyNext_range_item hi (by omega) fun h' hi' hsb => ?_
    refine q _ _ (ok.step (tk := s.toks + 1) hi rfl hfr hw hp hsb.extBut) (.range ?_) (.int _ _) (Moved.mv ⟨it, hsb.extBut, .fields hi rfl⟩)
    have e1 : lo + (i : Int) + 1 = lo + ((i + 1 : Nat) : Int) := by omega
    have e2 : ((n : Int) - (i : Int)) - 1 = (n : Int) - ((i + 1 : Nat) : Int) := by omega
    rw [e1, e2] at hi'
    exact hi'

theorem it_end {X : Cx} {W : List Addr} {P : List Pr} {ρ : List (Str × Ent)} {s : Shared} {it : Addr} {G : List Pr} {ds : List D} {i : Nat} (F : Fine X) (ok : OkP X W P ρ s) (hit : ItOk W s.heap it G ds i) (hd : ds[i]? = Option.none)
    (hfr : X.sE.heap.get? it = Option.none) (hw : it ∉ W) (hp : ∀ o, Pr.obj it o ∉ P) {Q : Option Value → Shared → Prop}
    (q : ∀ s', OkP X W P ρ s' → Mv s.heap s'.heap → Q Option.none s') : wpAny X.M X.A (pyNext (.ref it)) Q NoE s := by
  cases hit with
  | @list l o vs ds i ep hl hc hdl hlw hr hi =>
    obtain ⟨oi, hoi, hci, hdi⟩ := id hi
    refine wpAny_pyNext_list_end F.hnd hi ⟨o, hl, hc, _, hdl⟩ ?_ fun h' hk => q _ (ok.step (tk := s.toks) hoi hdi hfr hw hp hk) (Moved.mv ⟨it, hk, .fields hoi hdi⟩)
    rw [List.getElem?_eq_none_iff] at hd
    simp only [List.getElem?_toArray, List.getElem?_eq_none_iff]
    rw [hr.length]; exact hd
  | @range lo n i hi =>
    rw [List.getElem?_eq_none_iff] at hd
    simp at hd
    exact wpAny_pyNext_range_end F.hnd hi (by omega) fun h' hk => q _ (ok.step (tk := s.toks) hi rfl hfr hw hp hk) (Moved.mv ⟨it, hk, .fields hi rfl⟩)
end Mine



namespace Mine
open PySem PyProof.Rows

abbrev Nrm := List Pr → Shared → Prop
abbrev Rtn := Value → Shared → Prop
/-- what a block's end means -/
def Fin (N : Nrm) (R : Rtn) (P : List Pr) (f : Flow) (s : Shared) : Prop := match f with
  | .next => N P s
  | .ret v => R v s
  | _ => False
/-- a block -/
def Blk (X : Cx) (W : List Addr) (ρ : List (Str × Ent)) (sts : List Stmt) (N : Nrm) (R : Rtn) : Prop :=
  ∀ P s, OkP X W P ρ s → wpAny X.M X.A (execs sts X.env) (fun f s' => Fin N R P f s') NoE s
/-- what is left of a block -/
def Then (X : Cx) (rest : List Stmt) (N : Nrm) (R : Rtn) (P : List Pr) (s : Shared) : Prop := wpAny X.M X.A (execs rest X.env) (fun f s' => Fin N R P f s') NoE s
/-- one statement -/
def Stm (X : Cx) (W : List Addr) (ρ : List (Str × Ent)) (st : Stmt) (N : Nrm) (R : Rtn) : Prop :=
  ∀ P s, OkP X W P ρ s → wpAny X.M X.A (exec st X.env) (fun f s' => Fin N R P f s') NoE s

section
variable {X : Cx} {W : List Addr} {ρ : List (Str × Ent)} {N : Nrm} {R : Rtn}
theorem blk_nil (h : ∀ P s, OkP X W P ρ s → N P s) : Blk X W ρ [] N R := fun P s hs => wpAny_execs_nil (h P s hs)
theorem blk_cons {st : Stmt} {rest : List Stmt} (h : Stm X W ρ st (Then X rest N R) R) : Blk X W ρ (st :: rest) N R := fun P s hs =>
  wpAny_execs_cons (wpAny_mono (h P s hs) (fun f s' q => by
    cases f with
    | next => exact q
    | ret v => exact q
    | _ => exact q.elim) fun _ _ x => x)
theorem then_of {W' : List Addr} {ρ' : List (Str × Ent)} {rest : List Stmt} (h : Blk X W' ρ' rest N R) : ∀ P s, OkP X W' P ρ' s → Then X rest N R P s := fun P s hs => h P s hs
theorem blk_mono {sts : List Stmt} {N' : Nrm} (h : Blk X W ρ sts N R) (k : ∀ P s, N P s → N' P s) : Blk X W ρ sts N' R := fun P s hs =>
  wpAny_mono (h P s hs) (fun f s' q => by
    cases f with
    | next => exact k _ _ q
    | ret v => exact q
    | _ => exact q.elim) fun _ _ x => x

theorem stm_assign {x : Str} {p pos : Pos} {e : Expr} {d : D} {ρ' : List (Str × Ent)} (F : Fine X) (h : Ev X W ρ .s e d) (hp : Put ρ x (.val true d) ρ') (n : ∀ P s, OkP X W P ρ' s → N P s)
    (hs : ∀ env, swapsWith e (some (.Name x p)) pos.line env = pure false := by intro _; rfl) : Stm X W ρ (.Assign [.Name x p] e pos) N R := fun P s ok =>
  wpAny_Assign_Name (wpAny_mono (h s ok.ok) (fun v s₁ k => store_val F (ok.mono k.1) hp k.2 fun s' ok' _ => n P s' ok') fun _ _ x => x) (hs _)

theorem assign {x : Str} {p pos : Pos} {e : Expr} {d : D} {ρ' : List (Str × Ent)} {rest : List Stmt} (F : Fine X) (h : Ev X W ρ .s e d) (hp : Put ρ x (.val true d) ρ') (n : Blk X W ρ' rest N R)
    (hs : ∀ env, swapsWith e (some (.Name x p)) pos.line env = pure false := by intro _; rfl) : Blk X W ρ (.Assign [.Name x p] e pos :: rest) N R :=
  blk_cons (stm_assign F h hp (then_of n) hs)

/-- a new list of ints, from here on changed in place -/
theorem own_ok {P : List Pr} {s s' : Shared} {a : Addr} {ns : List Int} (ok : OkP X W P ρ s) (k : SExt [] s s') (r : Post .f W s.heap (.ref a) s'.heap (.list (ns.map .int))) :
    OkP X (a :: W) P ρ s' ∧ EntOk X.sE.heap (a :: W) s'.heap (some (.ref a)) (.own a ns) ∧ (∀ q ∈ ρ, ∀ b ms, q.2 = .own b ms → b ≠ a) := by
  have hfr : s.heap.get? a = Option.none := r.2 a rfl
  have hE : X.sE.heap.get? a = Option.none := ok.ok.ext.ext.fresh hfr
  obtain ⟨r1, _⟩ := r
  cases r1 with
  | list hl hw hr =>
    rename_i vs
    have hr' : Reps (a :: W) s'.heap vs (ns.map .int) := by
      clear hl hw
      induction ns generalizing vs with
      | nil => cases hr; exact .nil
      | cons n ns ih =>
        cases hr with
        | cons h1 h2 =>
          cases h1 with
          | int i t => exact .cons (.int _ _) (ih h2)
    refine ⟨⟨⟨ok.ok.ext.trans k.wider, ok.ok.nd, fun p hp => ?_, ok.ok.own, fun b hb => ?_⟩, fun p hp => ?_⟩, ⟨rfl, .head _, hE, _, hl, hr'⟩, fun q hq b ms e z => ?_⟩
    · rcases ok.ok.ent p hp with g | ⟨⟨ov, h1, h2⟩, h3⟩
      · exact .inl g
      · refine .inr ⟨⟨ov, h1.keep k.ext.strict, ?_⟩, h3⟩
        obtain ⟨x, ent⟩ := p
        cases ent with
        | un => trivial
        | val b d => obtain ⟨v, e, rr⟩ := h2; exact ⟨v, e, rr.mask k.ext.strict hfr⟩
        | tmp b d =>
          obtain ⟨v, e, rr, ex⟩ := h2
          refine ⟨v, e, ?_, ex⟩
          cases d with
          | list ds => obtain ⟨b, vs, rfl, hl2, hr2⟩ := rr; exact ⟨b, vs, rfl, Mine.Heap.IsList.map hl2 (k.ext.strict b), hr2.mask k.ext.strict hfr⟩
          | _ => exact Rep.mask rr k.ext.strict hfr
        | own b ms => obtain ⟨e, w, f, vs, hl2, hr2⟩ := h2; exact ⟨e, .tail _ w, f, vs, Mine.Heap.IsList.map hl2 (k.ext.strict b), hr2.mask k.ext.strict hfr⟩
        | gl v => cases h2
    · rcases List.mem_cons.mp hb with rfl | hb
      · obtain ⟨_, ho⟩ := hl; exact ⟨_, ho⟩
      · obtain ⟨o, ho⟩ := ok.ok.wal b hb; exact ⟨o, k.ext.strict b o ho⟩
    · have y := ok.prot p hp
      cases p with
      | obj b o =>
        refine ⟨k.ext.strict _ _ y.1, fun z => ?_, y.2.2⟩
        rcases List.mem_cons.mp z with rfl | z
        · have y1 := y.1; rw [hfr] at y1; cases y1
        · exact y.2.1 z
      | reps vs ds => exact Reps.mask y k.ext.strict hfr
    · rcases ok.ok.ent q hq with ⟨v, g, _⟩ | ⟨⟨ov, h1, h2⟩, h3⟩
      · rw [e] at g; cases g
      · rw [e] at h2
        obtain ⟨_, w, _⟩ := h2
        obtain ⟨o, ho⟩ := ok.ok.wal b w
        rw [z, hfr] at ho; cases ho

inductive PutF : List (Str × Ent) → Str → (Ent → List (Str × Ent)) → Prop
  | here {ρ : List (Str × Ent)} {x : Str} {e₀ : Ent} : e₀.rw = true → PutF ((x, e₀) :: ρ) x fun e => (x, e) :: ρ
  | there {ρ : List (Str × Ent)} {x : Str} {f : Ent → List (Str × Ent)} {p : Str × Ent} : PutF ρ x f → PutF (p :: ρ) x fun e => p :: f e
theorem PutF.put {ρ : List (Str × Ent)} {x : Str} {f : Ent → List (Str × Ent)} (h : PutF ρ x f) (e : Ent) : Put ρ x e (f e) := by
  induction h with
  | here hr => exact .here hr
  | there _ ih => exact .there ih
theorem assign_own {x : Str} {p pos : Pos} {e : Expr} {ns : List Int} {rest : List Stmt} {f : Ent → List (Str × Ent)} (F : Fine X) (h : Ev X W ρ .f e (.list (ns.map .int))) (hp : PutF ρ x f) (n : ∀ a, Blk X (a :: W) (f (.own a ns)) rest N R)
    (hs : ∀ env, swapsWith e (some (.Name x p)) pos.line env = pure false := by intro _; rfl) : Blk X W ρ (.Assign [.Name x p] e pos :: rest) N R :=
  blk_cons fun P s ok => wpAny_Assign_Name (wpAny_mono (h s ok.ok) (fun v s₁ k => by
    have r : Rep W s₁.heap v (.list (ns.map .int)) := k.2.1
    obtain ⟨a, rfl⟩ : ∃ a, v = .ref a := by cases r with | list => exact ⟨_, rfl⟩
    obtain ⟨ok', ent, hown⟩ := own_ok ok k.1 k.2
    exact store_ok F ok' (hp.put _) ent (fun b ms z => by cases z; exact hown) fun s' ok'' _ => n a P s' ok'') fun _ _ x => x) (hs _)

theorem stm_aug {x : Str} {p pos : Pos} {op : Operator} {e : Expr} {a b r : Int} {bb : Bool} {l : Lv} {ρ' : List (Str × Ent)} (F : Fine X) (hx : (x, Ent.val bb (.int a)) ∈ ρ) (h : Ev X W ρ l e (.int b)) (hp : Put ρ x (.val true (.int r)) ρ')
    (hop : ∀ (Q : Value → Shared → Prop) (s : Shared) (t u : Tok), (∀ tk tk', Q (.int r tk) { s with toks := tk' }) → wpAny X.M X.A (inplaceOp op (.int a t) (.int b u)) Q NoE s) (n : ∀ P s, OkP X W P ρ' s → N P s) (hn : okName x = true := by decide +kernel) :
    Stm X W ρ (.AugAssign (.Name x p) op e pos) N R := fun P s ok => by
  refine wpAny_AugAssign_Name ?_
  obtain ⟨_, z, _⟩ | ⟨⟨ov, h1, v, rfl, rr⟩, _⟩ := ok.ok.ent _ hx
  · cases z
  refine load1 F.kind h1 ?_ (okName_d hn).2
  refine wpAny_mono (h s ok.ok) (fun w s₁ k => ?_) fun _ _ x => x
  obtain ⟨u, rfl⟩ := repT_int k.2.toT
  cases rr with
  | int _ t => exact hop _ _ _ _ fun tk tk' => store_val F (ok.mono (k.1.trans (sext_toks _ _))) hp (.int _ _) fun s' ok' _ => n P s' ok'
theorem aug_add {x : Str} {p pos : Pos} {e : Expr} {a b : Int} {bb : Bool} {l : Lv} {ρ' : List (Str × Ent)} {rest : List Stmt} (F : Fine X) (hx : (x, Ent.val bb (.int a)) ∈ ρ) (h : Ev X W ρ l e (.int b)) (hp : Put ρ x (.val true (.int (a + b))) ρ') (n : Blk X W ρ' rest N R) (hn : okName x = true := by decide +kernel) :
    Blk X W ρ (.AugAssign (.Name x p) .Add e pos :: rest) N R := blk_cons (stm_aug F hx h hp (fun Q s t u q => iadd_int (q _ _)) (then_of n) hn)
theorem aug_sub {x : Str} {p pos : Pos} {e : Expr} {a b : Int} {bb : Bool} {l : Lv} {ρ' : List (Str × Ent)} {rest : List Stmt} (F : Fine X) (hx : (x, Ent.val bb (.int a)) ∈ ρ) (h : Ev X W ρ l e (.int b)) (hp : Put ρ x (.val true (.int (a - b))) ρ') (n : Blk X W ρ' rest N R) (hn : okName x = true := by decide +kernel) :
    Blk X W ρ (.AugAssign (.Name x p) .Sub e pos :: rest) N R := blk_cons (stm_aug F hx h hp (fun Q s t u q => isub_int (q _ _)) (then_of n) hn)
theorem aug_mul {x : Str} {p pos : Pos} {e : Expr} {a b : Int} {bb : Bool} {l : Lv} {ρ' : List (Str × Ent)} {rest : List Stmt} (F : Fine X) (hx : (x, Ent.val bb (.int a)) ∈ ρ) (h : Ev X W ρ l e (.int b)) (hm : IntMulOk a b) (hp : Put ρ x (.val true (.int (a * b))) ρ') (n : Blk X W ρ' rest N R) (hn : okName x = true := by decide +kernel) :
    Blk X W ρ (.AugAssign (.Name x p) .Mult e pos :: rest) N R := blk_cons (stm_aug F hx h hp (fun Q s t u q => imul_int (q _ _) hm) (then_of n) hn)

/-- an own list's item is replaced -/
theorem own_set {P : List Pr} {ρ' : List (Str × Ent)} {s : Shared} {x : Str} {a : Addr} {ns ms : List Int} {h' : Heap} {tk : Nat} (ok : OkP X W P ρ s) (hx : (x, Ent.own a ns) ∈ ρ) (hp : Put ρ x (.own a ms) ρ')
    (hsb : Heap.ExtBut a s.heap h') (hl : ∃ vs, h'.PlainList a vs.toArray ∧ Reps W h' vs (ms.map .int)) : OkP X W P ρ' { s with heap := h', toks := tk } := by
  obtain ⟨_, z, _⟩ | ⟨⟨ov, h1, rfl, w, f, vs, hl0, hr0⟩, fr⟩ := ok.ok.ent _ hx
  · cases z
  have data : ∃ o xs n, s.heap.get? a = some o ∧ o.data = .seq xs n := by obtain ⟨n, ho⟩ := hl0; exact ⟨_, _, n, ho, rfl⟩
  obtain ⟨oa, xs, na, hoa, hda⟩ := data
  have hold : ∀ y ov', Holds1 s.heap X.env y ov' → Holds1 h' X.env y ov' := by
    intro y ov' hh
    rcases hh with ⟨b, m, n, e⟩ | ⟨b, c, e, n⟩
    · refine .inl ⟨b, m, n.extBut hsb fun z => ?_, e⟩
      obtain ⟨o', es, ep, ho', hd', _⟩ := n
      rw [z, hoa] at ho'; cases ho'
      rw [hda] at hd'; cases hd'
    · refine .inr ⟨b, c, e, ?_⟩
      obtain ⟨o', ho', hd'⟩ := n
      refine ⟨o', hsb _ _ (fun z => ?_) ho', hd'⟩
      rw [z, hoa] at ho'; cases ho'
      rw [hda] at hd'; cases hd'
  refine ⟨⟨⟨ok.ok.ext.ext.extBut f hsb, ok.ok.ext.gens, ok.ok.ext.os⟩, by rw [hp.keys]; exact ok.ok.nd, fun p hp' => ?_, fun p hp' p₂ hp₂ a₁ ns' b ms' e1 e2 hne => ?_, fun b hb => ?_⟩, ok.prot.extButW hsb w⟩
  · rcases hp.cases ok.ok.nd p hp' with rfl | ⟨m', hne⟩
    · exact .inr ⟨⟨_, hold _ _ h1, rfl, w, f, hl⟩, fr⟩
    · obtain g | ⟨⟨ov', h2, h3⟩, fr'⟩ := ok.ok.ent _ m'
      · exact .inl g
      · refine .inr ⟨⟨ov', hold _ _ h2, ?_⟩, fr'⟩
        obtain ⟨y, ent⟩ := p
        cases ent with
        | un => trivial
        | val b d => obtain ⟨v, e, rr⟩ := h3; exact ⟨v, e, rr.extBut hsb (.inl w)⟩
        | tmp b d =>
          obtain ⟨v, e, rr, ex⟩ := h3
          refine ⟨v, e, ?_, ex⟩
          cases d with
          | list ds =>
            obtain ⟨b, us, rfl, hl2, hr2⟩ := rr
            refine ⟨b, us, rfl, hl2.extBut hsb fun z => ?_, hr2.extBut hsb (.inl w)⟩
            obtain ⟨o, ho⟩ := ex b rfl
            rw [z, f] at ho; cases ho
          | _ => exact Rep.extBut rr hsb (.inl w)
        | own b ks =>
          obtain ⟨e, w', f', us, hl2, hr2⟩ := h3
          have : b ≠ a := fun z => (ok.ok.own _ m' _ hx b ks a ns rfl rfl hne) z
          exact ⟨e, w', f', us, hl2.extBut hsb this, hr2.extBut hsb (.inl w)⟩
        | gl v => cases h3
  · rcases hp.cases ok.ok.nd p hp' with rfl | ⟨m', hne'⟩
    · rcases hp.cases ok.ok.nd p₂ hp₂ with rfl | ⟨m₂, hne₂⟩
      · exact absurd rfl hne
      · cases e1
        exact ok.ok.own _ hx _ m₂ a ns b ms' rfl e2 hne
    · rcases hp.cases ok.ok.nd p₂ hp₂ with rfl | ⟨m₂, _⟩
      · cases e2
        exact ok.ok.own _ m' _ hx a₁ ns' a ns e1 rfl hne
      · exact ok.ok.own p m' p₂ m₂ a₁ ns' b ms' e1 e2 hne
  · obtain ⟨o, ho⟩ := ok.ok.wal b hb
    by_cases hba : b = a
    · subst hba; obtain ⟨vs, ⟨_, ho'⟩, _⟩ := hl; exact ⟨_, ho'⟩
    · exact ⟨o, hsb b o hba ho⟩

/-- the value of an own list's name -/
theorem own_val {P : List Pr} {s : Shared} {x : Str} {a : Addr} {ns : List Int} (ok : OkP X W P ρ s) (hx : (x, Ent.own a ns) ∈ ρ) : Holds1 s.heap X.env x (some (.ref a)) ∧ ∃ vs, s.heap.PlainList a vs.toArray ∧ Reps W s.heap vs (ns.map .int) := by
  obtain ⟨_, z, _⟩ | ⟨⟨ov, h1, rfl, w, f, vs, hl0, hr0⟩, fr⟩ := ok.ok.ent _ hx
  · cases z
  exact ⟨h1, vs, hl0, hr0⟩
theorem reps_ints_set {h : Heap} {vs : List Value} {ns : List Int} {i : Nat} {v : Int} {t : Tok} (r : Reps W h vs (ns.map .int)) : Reps W h (vs.set i (.int v t)) ((ns.set i v).map .int) := by
  induction ns generalizing vs i with
  | nil => cases r; exact .nil
  | cons n ns ih =>
    cases r with
    | cons a b =>
      cases i with
      | zero => exact .cons (.int _ _) b
      | succ i => exact .cons a (ih b)
theorem reps_ints_any {W' : List Addr} {h h' : Heap} {vs : List Value} {ns : List Int} (r : Reps W h vs (ns.map .int)) : Reps W' h' vs (ns.map .int) := by
  induction ns generalizing vs with
  | nil => cases r; exact .nil
  | cons n ns ih => cases r with | cons a b => cases a; exact .cons (.int _ _) (ih b)
theorem setItem_plain {l : Addr} {items : Array Value} {k : Int} {t : Tok} {v : Value} {s : Shared} {Q : Unit → Shared → Prop} (hp : s.heap.PlainList l items) (h0 : 0 ≤ k) (hfit : k < 2 ^ 63) (hn : k < items.size)
    (hQ : ∀ h', h'.PlainList l (items.setIfInBounds k.toNat v) → Heap.SameBut l s.heap h' → Q () { s with heap := h' }) : wpAny X.M X.A (setItem (.ref l) (.int k t) v) Q NoE s := by
  obtain ⟨n, ho⟩ := id hp
  have hl := hp.isList
  have upd : (s.heap.update l (Obj.mapSeq (·.setIfInBounds k.toNat v))).PlainList l (items.setIfInBounds k.toNat v) := by
    refine ⟨n, ?_⟩
    rw [Heap.get?_update_self _ ho (by simp [Obj.mapSeq, Obj.isFreed])]
    simp [Obj.mapSeq]
  have hget : ∃ y, items[k.toNat]? = some y := ⟨_, Array.getElem?_eq_getElem (show k.toNat < items.size by omega)⟩
  obtain ⟨y, hget⟩ := hget
  unfold setItem
  try with_reducible refine wpAny_holding ?_
  first | refine wpAny_bind (wpAny_pure ?_) | skip
  refine wpAny_bind (wpAny_sequenceKey hl.typeIs (by decide) ?_)
  refine wpAny_bind (wpAny_callSpecial?_slot (name := Str.ofString "__setitem__") hl.typeIs slot_list_setitem (wpAny_call_entry slot_list_setitem hl.typeIs entry_list_setitem ?_ (args_list_setitem _ _ _)))
  show wpAny _ _ (Builtin.List.listSubscript? (.int k t) >>= _) _ _ s
  refine wpAny_bind (wpAny_listSubscript_int (fitsIndex_of h0 hfit) ?_)
  clear hfit
  generalize hj : k.toNat = j at upd hget hQ
  have e : k = Int.ofNat j := by rw [← hj]; exact (Int.toNat_of_nonneg h0).symm
  subst e
  show wpAny _ _ ((seqItemAt l j >>= fun r => pure (r.map (j, ·))) >>= _) _ _ s
  refine wpAny_bind (wpAny_bind (wpAny_seqItemAt ho rfl (wpAny_pure ?_)))
  rw [hget]
  show wpAny _ _ (setSeqItemAt l j v >>= _) _ _ s
  refine wpAny_bind (wpAny_setSeqItemAt ho rfl ?_)
  first
    | exact wpAny_bind (wpAny_pure (wpAny_pure ⟨.none, rfl, wpAny_pure (hQ _ upd (Heap.SameBut.update ..))⟩))
    | exact wpAny_pure ⟨.none, rfl, wpAny_pure (hQ _ upd (Heap.SameBut.update ..))⟩
theorem set_item {P : List Pr} {ρ' : List (Str × Ent)} {s : Shared} {x : Str} {a : Addr} {ns : List Int} {k v : Int} {t u : Tok} {Q : Unit → Shared → Prop} (ok : OkP X W P ρ s) (hx : (x, Ent.own a ns) ∈ ρ) (h0 : 0 ≤ k) (hk : k < ns.length) (hz : ns.length ≤ 1000000)
    (hp : Put ρ x (.own a (ns.set k.toNat v)) ρ') (q : ∀ s', OkP X W P ρ' s' → Q () s') : wpAny X.M X.A (setItem (.ref a) (.int k t) (.int v u)) Q NoE s := by
  obtain ⟨_, vs, hl, hr⟩ := own_val ok hx
  have hn := hr.length
  rw [List.length_map] at hn
  refine setItem_plain hl h0 (by omega) (by rw [List.size_toArray, hn]; exact hk) fun h' hl' hsb => q _ ?_
  refine own_set (tk := s.toks) ok hx hp hsb.extBut ⟨vs.set k.toNat (.int v u), ?_, reps_ints_any (reps_ints_set hr)⟩
  simpa using hl'

/-- x[i] += e -/
theorem aug_item {x : Str} {p tp pos : Pos} {op : Operator} {ei e : Expr} {l l' : Lv} {a : Addr} {ns : List Int} {k y b r : Int} {ρ' : List (Str × Ent)} {rest : List Stmt} (F : Fine X) (hx : (x, Ent.own a ns) ∈ ρ) (hi : Ev X W ρ l ei (.int k)) (h0 : 0 ≤ k) (hy : ns[k.toNat]? = some y) (hz : ns.length ≤ 1000000)
    (h : Ev X W ρ l' e (.int b)) (hop : ∀ (Q : Value → Shared → Prop) (s : Shared) (t u : Tok), (∀ tk tk', Q (.int r tk) { s with toks := tk' }) → wpAny X.M X.A (inplaceOp op (.int y t) (.int b u)) Q NoE s)
    (hp : Put ρ x (.own a (ns.set k.toNat r)) ρ') (n : Blk X W ρ' rest N R) (hn : okName x = true := by decide +kernel)
    (ha : ∀ ov iv new, augStore ei ov iv new = (do holding [new, ov, iv] (setItem ov iv new); release [new, ov, iv] []; pure .next) := by intros; rfl) :
    Blk X W ρ (.AugAssign (.Subscript (.Name x p) ei tp) op e pos :: rest) N R := blk_cons fun P s ok => by
  have hk : k < ns.length := by have := (List.getElem?_eq_some_iff.mp hy).1; omega
  obtain ⟨h1, vs, hl, hr⟩ := own_val ok hx
  refine wpAny_AugAssign_SubscriptAny (wpAny_Name (load1 F.kind h1 ?_ (okName_d hn).2) (okName_d hn).1) ha
  refine wpAny_mono (hi s ok.ok) (fun iv s₁ k₁ => ?_) fun _ _ x => x
  obtain ⟨t, rfl⟩ := repT_int k₁.2.toT
  have ok₁ := ok.mono k₁.1
  obtain ⟨_, vs₁, hl₁, hr₁⟩ := own_val ok₁ hx
  refine getItem_item hl₁ hr₁ (d := .int y) ?_ (by rw [List.length_map]; exact hz) fun old ro => ?_
  · unfold itemAt
    rw [if_pos h0, List.getElem?_map, hy]; rfl
  cases ro with
  | int _ t' =>
    refine wpAny_mono (h s₁ ok₁.ok) (fun bv s₂ k₂ => ?_) fun _ _ x => x
    obtain ⟨u, rfl⟩ := repT_int k₂.2.toT
    refine hop _ _ _ _ fun tk tk' => ?_
    exact set_item (ok₁.mono (k₂.1.trans (sext_toks _ _))) hx h0 hk hz hp fun s' ok' => n P s' ok'

/-- if -/
theorem stm_if {e : Expr} {body orelse : List Stmt} {pos : Pos} {c : Bool} (h : Tst X W ρ e c) (ht : c = true → Blk X W ρ body N R) (hf : c = false → Blk X W ρ orelse N R) : Stm X W ρ (.If e body orelse pos) N R := fun P s ok =>
  wpAny_If (wpAny_mono (h s ok.ok) (fun b s₁ k => by
    obtain ⟨k, rfl⟩ := k
    cases b with
    | true => exact ht rfl P s₁ (ok.mono k)
    | false => exact hf rfl P s₁ (ok.mono k)) fun _ _ x => x)
theorem blk_if {e : Expr} {body orelse rest : List Stmt} {pos : Pos} {c : Bool} (h : Tst X W ρ e c) (ht : c = true → Blk X W ρ body (Then X rest N R) R) (hf : c = false → Blk X W ρ orelse (Then X rest N R) R) : Blk X W ρ (.If e body orelse pos :: rest) N R := blk_cons (stm_if h ht hf)
/-- an if without else that ends the block -/
theorem blk_if_ret {e : Expr} {body rest : List Stmt} {pos : Pos} {c : Bool} (h : Tst X W ρ e c) (ht : c = true → Blk X W ρ body (Then X rest N R) R) (hf : c = false → Blk X W ρ rest N R) : Blk X W ρ (.If e body [] pos :: rest) N R :=
  blk_if h ht fun e => blk_nil fun P s ok => hf e P s ok

theorem blk_ret {l : Lv} {e : Expr} {pos : Pos} {d : D} {rest : List Stmt} (h : Ev X W ρ l e d) (q : ∀ P s v s', OkP X W P ρ s → SExt [] s s' → Post l W s.heap v s'.heap d → R v s') : Blk X W ρ (.Return (some e) pos :: rest) N R := blk_cons fun P s ok =>
  wpAny_Return_some (wpAny_mono (h s ok.ok) (fun v s' k => q P s v s' ok k.1 k.2) fun _ _ x => x)

/-- what a def hands back -/
def Ret (X : Cx) (W : List Addr) (l : Lv) (d : D) : Rtn := fun v s' => SExt X.T X.sE s' ∧ Post l W X.sE.heap v s'.heap d
theorem ret_f {e : Expr} {pos : Pos} {d : D} {rest : List Stmt} (h : Ev X W ρ .f e d) : Blk X W ρ (.Return (some e) pos :: rest) N (Ret X W .f d) :=
  blk_ret h fun P s v s' ok k p => ⟨ok.ok.ext.trans k.wider, p.1, fun a e => ok.ok.ext.ext.fresh (p.2 a e)⟩
theorem ret_s {e : Expr} {pos : Pos} {d : D} {rest : List Stmt} (h : Ev X W ρ .s e d) : Blk X W ρ (.Return (some e) pos :: rest) N (Ret X W .s d) :=
  blk_ret h fun P s v s' ok k p => ⟨ok.ok.ext.trans k.wider, p⟩
theorem ret_flat {l : Lv} {e : Expr} {pos : Pos} {d : D} {rest : List Stmt} {W₀ : List Addr} (h : Ev X W ρ l e d) (hd : d.flat = true := by rfl) : Blk X W ρ (.Return (some e) pos :: rest) N (Ret X W₀ .f d) :=
  blk_ret (h.flat (l' := .f) hd) fun P s v s' ok k p => ⟨ok.ok.ext.trans k.wider, by
    obtain ⟨r, _⟩ := p
    cases r <;> first | cases hd | skip
    · exact ⟨.nun, fun _ e => by cases e⟩
    · exact ⟨.bool _, fun _ e => by cases e⟩
    · exact ⟨.int _ _, fun _ e => by cases e⟩
    · exact ⟨.str _ _, fun _ e => by cases e⟩⟩
/-- an own list is handed back -/
theorem ret_own {x : Str} {p pos : Pos} {a : Addr} {ns : List Int} {rest : List Stmt} {W₀ : List Addr} (F : Fine X) (hx : (x, Ent.own a ns) ∈ ρ) (wal : ∀ a ∈ W₀, ∃ o, X.sE.heap.get? a = some o) (hn : okName x = true := by decide +kernel) :
    Blk X W ρ (.Return (some (.Name x p)) pos :: rest) N (Ret X W₀ .f (.list (ns.map .int))) := blk_cons fun P s ok => by
  refine wpAny_Return_some ?_
  obtain ⟨_, z, _⟩ | ⟨⟨ov, h1, rfl, w, f, vs, hl, hr⟩, fr⟩ := ok.ok.ent _ hx
  · cases z
  refine wpAny_Name (load1 F.kind h1 ?_ (okName_d hn).2) (okName_d hn).1
  refine ⟨ok.ok.ext, .list hl (fun z => ?_) (reps_ints_any hr), fun b e => by cases e; exact f⟩
  obtain ⟨o, ho⟩ := wal a z
  rw [f] at ho; cases ho

/-- targets -/
def Tgt (X : Cx) (W : List Addr) (ρ : List (Str × Ent)) (t : Expr) (d : D) (ρ' : List (Str × Ent)) : Prop :=
  ∀ P s v, OkP X W P ρ s → Rep W s.heap v d → wpAny X.M X.A (PySem.assign t X.env v) (fun _ s' => OkP X W P ρ' s' ∧ Mv s.heap s'.heap) NoE s
theorem tgt_name {x : Str} {p : Pos} {d : D} {ρ' : List (Str × Ent)} (F : Fine X) (hp : Put ρ x (.val true d) ρ') : Tgt X W ρ (.Name x p) d ρ' := fun P s v ok r =>
  wpAny_assign_Name (store_val F ok hp r fun s' ok' m => ⟨ok', m.mv⟩)

/-- for -/
theorem stm_for {t iter : Expr} {body : List Stmt} {pos : Pos} {ds : List D} (F : Fine X) (σ : Nat → List (Str × Ent)) (h : Src X W ρ iter ds) (h0 : ∀ s, Ok X W ρ s → Ok X W (σ 0) s)
    (turn : ∀ i d, ds[i]? = some d → ∃ ρ', Tgt X W (σ i) t d ρ' ∧ Blk X W ρ' body (fun P s => OkP X W P (σ (i + 1)) s) R) (n : ∀ P s, OkP X W P (σ ds.length) s → N P s)
    (hf : ∀ env x, foldedSetIterable iter env x = pure x := by intro _ _; rfl) (hg : ∀ it v M A E Q (s : Shared), (∃ o vs, s.heap.get? it = some o ∧ o.data = .fields vs ∧ (o.cls = .type "list_iterator" ∨ o.cls = .type "range_iterator")) → Q () s → wpAny M A (letOwnedTupleGo t (.ref it) v) Q E s := by intro _ _ _ _ _ _ _ _ q; exact wpAny_pure q) :
    Stm X W ρ (.For t iter body [] pos) N R := fun P s ok => by
  refine wpAny_For (wpAny_mono (h s ok.ok) (fun v s₁ k₁ => ?_) fun _ _ x => x) (hf _)
  refine it_start F (ok.ok.mono k₁.1) k₁.2 fun it G s₂ k₂ hit hfr => ?_
  have kk := k₁.1.trans k₂
  have ok₂ := ok.mono kk
  have hfE : X.sE.heap.get? it = Option.none := (ok.ok.ext.trans k₁.1.wider).ext.fresh hfr
  have hw : it ∉ W := fun z => by obtain ⟨o, ho⟩ := (ok.ok.mono k₁.1).wal it z; rw [hfr] at ho; cases ho
  have hpP : ∀ o, Pr.obj it o ∉ P := fun o z => by
    have y := (ok.mono k₁.1).prot _ z
    have y1 := y.1
    rw [hfr] at y1; cases y1
  refine codeAny_loop' rfl (fun k s' => ∃ i, k = ds.length + 1 - i ∧ i ≤ ds.length ∧ OkP X W P (σ i) s' ∧ ItOk W s'.heap it G ds i) (fun k s₃ hI => ?_) (ds.length + 1) ⟨0, rfl, Nat.zero_le _, ⟨h0 _ ok₂.ok, ok₂.prot⟩, hit⟩
  obtain ⟨i, rfl, hi, ok₃, hit₃⟩ := hI
  show wpAny _ _ ((forTurn t (.ref it) body [] X.env).onRaise (fun x => do noteFrame x X.env; theTreesLotGoes x)) _ _ s₃
  refine wpAny_onRaise (wpAny_mono (E := NoE) ?_ (fun _ _ x => x) fun _ _ x => x.elim)
  simp only [forTurn]
  refine wpAny_bind (wpAny_standAt (wpAny_bind (wpAny_onRaise ?_)))
  by_cases hlt : i < ds.length
  · have hd : ds[i]? = some ds[i] := by simp [hlt]
    refine wpAny_mono (E := NoE) (it_next F ok₃ hit₃ hd hfE hw hpP (Q := fun r s₄ => ∃ v, r = some v ∧ OkP X W P (σ i) s₄ ∧ ItOk W s₄.heap it G ds (i + 1) ∧ Rep W s₄.heap v ds[i]) fun v s₄ a b c _ => ⟨v, rfl, a, b, c⟩) (fun r s₄ q => ?_) fun _ _ x => x.elim
    obtain ⟨v', rfl, ok₄, hit₄, rv⟩ := q
    obtain ⟨o, vs, ho, hdo⟩ := hit₄.obj
    have hcls : o.cls = .type "list_iterator" ∨ o.cls = .type "range_iterator" := by
      cases hit₄ with
      | list _ _ _ _ _ hi => obtain ⟨o', ho', hc, _⟩ := hi; rw [ho] at ho'; cases ho'; exact .inl hc
      | range hi => have e := ho.symm.trans hi; rw [Option.some.inj e]; exact .inr rfl
    refine wpAny_bind (hg it v' _ _ _ _ _ ⟨o, vs, ho, hdo, hcls⟩ ?_)
    obtain ⟨ρ', htg, hbody⟩ := turn i _ hd
    have ok₅ : OkP X W (.obj it o :: (G ++ P)) (σ i) s₄ := ⟨ok₄.ok, hit₄.allProt ho hw ok₄.prot⟩
    refine wpAny_bind (wpAny_mono (htg _ _ _ ok₅ rv) (fun _ s₅ ok₆ => ?_) fun _ _ x => x)
    refine wpAny_bind (wpAny_mono (hbody _ _ ok₆.1) (fun f s₆ q => ?_) fun _ _ x => x)
    cases f with
    | next =>
      have q' : OkP X W (.obj it o :: (G ++ P)) (σ (i + 1)) s₆ := q
      refine wpAny_pure (.inl ⟨rfl, ds.length + 1 - (i + 1), by omega, i + 1, rfl, hlt, ⟨q'.ok, fun p hp => q'.prot p (.tail _ (List.mem_append.mpr (.inr hp)))⟩, hit₄.prot ho q'.prot⟩)
    | ret v => exact wpAny_pure q
    | brk => exact q.elim
    | cont => exact q.elim
  · have e : i = ds.length := by omega
    subst e
    refine wpAny_mono (E := NoE) (it_end F ok₃ hit₃ (by simp) hfE hw hpP (Q := fun r s₄ => r = Option.none ∧ OkP X W P (σ ds.length) s₄) fun s₄ a _ => ⟨rfl, a⟩) (fun r s₄ q => ?_) fun _ _ x => x.elim
    obtain ⟨rfl, ok₄⟩ := q
    exact wpAny_pure (.inr ⟨rfl, codeAny_block (wpAny_execs_nil (n P s₄ ok₄))⟩)
theorem blk_for {t iter : Expr} {body rest : List Stmt} {pos : Pos} {ds : List D} (F : Fine X) (σ : Nat → List (Str × Ent)) (h : Src X W ρ iter ds) (h0 : ∀ s, Ok X W ρ s → Ok X W (σ 0) s)
    (turn : ∀ i d, ds[i]? = some d → ∃ ρ', Tgt X W (σ i) t d ρ' ∧ Blk X W ρ' body (fun P s => OkP X W P (σ (i + 1)) s) R) (n : Blk X W (σ ds.length) rest N R)
    (hf : ∀ env x, foldedSetIterable iter env x = pure x := by intro _ _; rfl) (hg : ∀ it v M A E Q (s : Shared), (∃ o vs, s.heap.get? it = some o ∧ o.data = .fields vs ∧ (o.cls = .type "list_iterator" ∨ o.cls = .type "range_iterator")) → Q () s → wpAny M A (letOwnedTupleGo t (.ref it) v) Q E s := by intro _ _ _ _ _ _ _ _ q; exact wpAny_pure q) :
    Blk X W ρ (.For t iter body [] pos :: rest) N R := blk_cons (stm_for F σ h h0 turn (then_of n) hf hg)

/-- while, by its turns -/
theorem blk_while {e : Expr} {body rest : List Stmt} {pos : Pos} (F : Fine X) (σ : Nat → List (Str × Ent)) (m : Nat) (h0 : ∀ s, Ok X W ρ s → Ok X W (σ 0) s)
    (turn : ∀ i, i < m → Tst X W (σ i) e true ∧ Blk X W (σ i) body (fun P s => OkP X W P (σ (i + 1)) s) R) (stop : Tst X W (σ m) e false) (n : Blk X W (σ m) rest N R) :
    Blk X W ρ (.While e body [] pos :: rest) N R := blk_cons fun P s ok => by
  refine wpAny_While ?_
  refine codeAny_loop' rfl (fun k s' => ∃ i, k = m - i ∧ i ≤ m ∧ OkP X W P (σ i) s') (fun k s₃ hI => ?_) m ⟨0, rfl, Nat.zero_le _, ⟨h0 _ ok.ok, ok.prot⟩⟩
  obtain ⟨i, rfl, hi, ok₃⟩ := hI
  show wpAny _ _ ((whileTurn e body [] X.env).onRaise (fun x => do noteFrame x X.env; theTreesLotGoes x)) _ _ s₃
  refine wpAny_onRaise (wpAny_mono (E := NoE) ?_ (fun _ _ x => x) fun _ _ x => x.elim)
  simp only [whileTurn]
  by_cases hlt : i < m
  · obtain ⟨ht, hb⟩ := turn i hlt
    refine wpAny_bind (wpAny_mono (ht s₃ ok₃.ok) (fun b s₄ k => ?_) fun _ _ x => x)
    obtain ⟨k, rfl⟩ := k
    refine wpAny_bind (wpAny_mono (hb P s₄ (ok₃.mono k)) (fun f s₅ q => ?_) fun _ _ x => x)
    cases f with
    | next => exact wpAny_pure (.inl ⟨rfl, m - (i + 1), by omega, i + 1, rfl, hlt, q⟩)
    | ret v => exact wpAny_pure q
    | brk => exact q.elim
    | cont => exact q.elim
  · have e : i = m := by omega
    subst e
    refine wpAny_bind (wpAny_mono (stop s₃ ok₃.ok) (fun b s₄ k => ?_) fun _ _ x => x)
    obtain ⟨k, rfl⟩ := k
    exact wpAny_bind (wpAny_execs_nil (wpAny_pure (n P s₄ (ok₃.mono k))))
end
end Mine



namespace Mine
open PySem PyProof.Rows

def clos (env : Env) : List (Str × NameKind) → List (Str × Addr) → List (Str × Addr)
  | [], acc => acc
  | (x, k) :: r, acc => if k == .free then clos env r ((x, (env.cells.lookup x).getD 0) :: acc) else clos env r acc
theorem closureFor_clos {env : Env} {scope : Scope} (h : ∀ x, (x, NameKind.free) ∈ scope.names → ∃ c, env.cells.lookup x = some c) : closureFor scope env = pure (clos env scope.names []) := by
  have key : ∀ (names : List (Str × NameKind)) (acc : List (Str × Addr)) (f : Str × NameKind → List (Str × Addr) → Sem (ForInStep (List (Str × Addr)))),
      (∀ n k c, f (n, k) c = if k == .free then (do let a ← cellOf env n; pure (.yield ((n, a) :: c))) else pure (.yield c)) → (∀ x, (x, NameKind.free) ∈ names → ∃ c, env.cells.lookup x = some c) →
      forIn names acc f = pure (clos env names acc) := by
    intro names
    induction names with
    | nil => intro acc f _ _; rfl
    | cons p r ih =>
      intro acc f hf hh
      obtain ⟨x, k⟩ := p
      rw [List.forIn_cons, hf]
      unfold clos
      by_cases hk : (k == NameKind.free) = true
      · rw [if_pos hk, if_pos hk]
        have : k = .free := by simpa using hk
        subst this
        obtain ⟨c, hc⟩ := hh x (.head _)
        have e : cellOf env x = pure c := by unfold cellOf; rw [hc]
        rw [e, hc, pure_bind, pure_bind]
        exact ih _ f hf fun y hy => hh y (.tail _ hy)
      · rw [if_neg hk, if_neg hk, pure_bind]
        exact ih _ f hf fun y hy => hh y (.tail _ hy)
  simp only [closureFor]
  rw [key scope.names [] _ (fun n k c => by cases hk : k == NameKind.free <;> simp [hk]) h]
  rfl
theorem clos_mem {env : Env} : ∀ (names : List (Str × NameKind)) (acc : List (Str × Addr)) (x : Str) (c : Addr), (x, c) ∈ clos env names acc → (x, c) ∈ acc ∨ ((x, NameKind.free) ∈ names ∧ c = (env.cells.lookup x).getD 0)
  | [], _, _, _, h => .inl h
  | (y, k) :: r, acc, x, c, h => by
    unfold clos at h
    split at h
    · rename_i hk
      have : k = .free := by simpa using hk
      subst this
      rcases clos_mem r _ x c h with h | ⟨h1, h2⟩
      · rcases List.mem_cons.mp h with e | h
        · cases e; exact .inr ⟨.head _, rfl⟩
        · exact .inl h
      · exact .inr ⟨.tail _ h1, h2⟩
    · rcases clos_mem r _ x c h with h | ⟨h1, h2⟩
      · exact .inl h
      · exact .inr ⟨.tail _ h1, h2⟩
theorem clos_has {env : Env} : ∀ (names : List (Str × NameKind)) (acc : List (Str × Addr)) (x : Str), ((x, NameKind.free) ∈ names ∨ ∃ c, (x, c) ∈ acc) → ∃ c, (x, c) ∈ clos env names acc
  | [], _, _, h => by
    rcases h with h | h
    · cases h
    · exact h
  | (y, k) :: r, acc, x, h => by
    unfold clos
    split
    · rename_i hk
      refine clos_has r _ x ?_
      rcases h with h | ⟨c, h⟩
      · rcases List.mem_cons.mp h with e | h
        · cases e; exact .inr ⟨_, .head _⟩
        · exact .inl h
      · exact .inr ⟨c, .tail _ h⟩
    · rename_i hk
      refine clos_has r _ x ?_
      rcases h with h | h
      · rcases List.mem_cons.mp h with e | h
        · cases e; simp at hk
        · exact .inl h
      · exact .inr h
theorem clos_lookup {env : Env} {names : List (Str × NameKind)} {x : Str} {c : Addr} (h : (clos env names []).lookup x = some c) : (x, NameKind.free) ∈ names ∧ c = (env.cells.lookup x).getD 0 := by
  rcases clos_mem names [] x c (mem_of_lookup h) with h | h
  · cases h
  · exact h
theorem clos_some {env : Env} {names : List (Str × NameKind)} {x : Str} (h : (x, NameKind.free) ∈ names) : (clos env names []).lookup x = some ((env.cells.lookup x).getD 0) := by
  obtain ⟨c, hc⟩ := clos_has (env := env) names [] x (.inl h)
  obtain ⟨c', hl⟩ := lookup_of_mem hc
  rw [hl, (clos_lookup hl).2]

theorem relabel_mem {env : Env} {names : List (Str × NameKind)} (nd : (names.map (·.1)).Nodup) {x : Str} {k : NameKind} (h : (x, k) ∈ names) :
    (names.map fun (n, k) => if (k == NameKind.free && env.scope.kind == ScopeKind.function && env.kindOf n == some NameKind.cell) then (n, NameKind.cell) else (n, k)).lookup x =
      some (if (k == NameKind.free && env.scope.kind == ScopeKind.function && env.kindOf x == some NameKind.cell) then NameKind.cell else k) := by
  refine nodup_lookup ?_ ?_
  · have : (names.map fun (n, k) => if (k == NameKind.free && env.scope.kind == ScopeKind.function && env.kindOf n == some NameKind.cell) then (n, NameKind.cell) else (n, k)).map (·.1) = names.map (·.1) := by
      rw [List.map_map]
      apply List.map_congr_left
      intro p _
      obtain ⟨n, k⟩ := p
      show (if _ then (n, NameKind.cell) else (n, k)).1 = n
      split <;> rfl
    rw [this]; exact nd
  · have := List.mem_map_of_mem (f := fun (n, k) => if (k == NameKind.free && env.scope.kind == ScopeKind.function && env.kindOf n == some NameKind.cell) then (n, NameKind.cell) else (n, k)) h
    by_cases c : (k == NameKind.free && env.scope.kind == ScopeKind.function && env.kindOf x == some NameKind.cell) = true
    · rw [if_pos c]
      have e : (if (k == NameKind.free && env.scope.kind == ScopeKind.function && env.kindOf x == some NameKind.cell) = true then (x, NameKind.cell) else (x, k)) = (x, NameKind.cell) := if_pos c
      rw [← e]; exact this
    · rw [if_neg c]
      have e : (if (k == NameKind.free && env.scope.kind == ScopeKind.function && env.kindOf x == some NameKind.cell) = true then (x, NameKind.cell) else (x, k)) = (x, k) := if_neg c
      rw [← e]; exact this

/-- tests of a clause -/
def TstAll (X : Cx) (W : List Addr) (ρ : List (Str × Ent)) (ifs : List Expr) (c : Bool) : Prop :=
  ∀ s, Ok X W ρ s → wpAny X.M X.A (forIn ifs true fun t r => if r = true then do let ok ← isTrue t X.env (eval t X.env); pure (ForInStep.yield ok) else pure (ForInStep.yield r)) (fun ok s' => SExt [] s s' ∧ ok = c) NoE s
section
variable {X : Cx} {W : List Addr} {ρ : List (Str × Ent)}
theorem tstAll_nil : TstAll X W ρ [] true := fun s hs => by rw [List.forIn_nil]; exact wpAny_pure ⟨.refl .., rfl⟩
theorem tstAll_one {e : Expr} {c : Bool} (h : Tst X W ρ e c) : TstAll X W ρ [e] c := fun s hs => by
  rw [List.forIn_cons]
  refine wpAny_bind ?_
  show wpAny _ _ (do let ok ← isTrue e X.env (eval e X.env); pure (ForInStep.yield ok)) _ _ s
  refine wpAny_bind (wpAny_mono (h s hs) (fun b s₁ k => wpAny_pure ?_) fun _ _ x => x)
  show wpAny _ _ (forIn [] b _) _ _ s₁
  rw [List.forIn_nil]; exact wpAny_pure k

/-- the list that is being made -/
def AccIs (W : List Addr) (h : Heap) (acc : Addr) (ds : List D) : Prop := RepT W h (.ref acc) (.list ds)

def Back (ρ' ρ : List (Str × Ent)) : Prop := ∀ s X W, Ok X W ρ' s → Ok X W ρ s
inductive PutU : List (Str × Ent) → Str → Ent → List (Str × Ent) → Prop
  | here {ρ : List (Str × Ent)} {x : Str} {e : Ent} : PutU ((x, .un) :: ρ) x e ((x, e) :: ρ)
  | there {ρ ρ' : List (Str × Ent)} {x : Str} {e : Ent} {p : Str × Ent} : PutU ρ x e ρ' → PutU (p :: ρ) x e (p :: ρ')
theorem PutU.put {ρ ρ' : List (Str × Ent)} {x : Str} {e : Ent} (h : PutU ρ x e ρ') : Put ρ x e ρ' := by
  induction h with
  | here => exact .here rfl
  | there _ ih => exact .there ih
theorem PutU.back {ρ ρ' : List (Str × Ent)} {x : Str} {e : Ent} (h : PutU ρ x e ρ') (he : e.rw = true) : Back ρ' ρ := by
  have key : ∀ p ∈ ρ, p ∈ ρ' ∨ (p.2 = .un ∧ ∃ e, (p.1, e) ∈ ρ' ∧ e.rw = true) := by
    induction h with
    | here =>
      intro p hp
      rcases List.mem_cons.mp hp with rfl | hp
      · exact .inr ⟨rfl, _, .head _, he⟩
      · exact .inl (.tail _ hp)
    | there _ ih =>
      intro p hp
      rcases List.mem_cons.mp hp with rfl | hp
      · exact .inl (.head _)
      · rcases ih he p hp with h | ⟨h1, e', h2, h3⟩
        · exact .inl (.tail _ h)
        · exact .inr ⟨h1, e', .tail _ h2, h3⟩
  intro s X W ok
  exact ok.forget key (by rw [← h.put.keys]; exact ok.nd)

/-- a masked list is grown -/
theorem OkP.grow {P : List Pr} {s : Shared} {a : Addr} {h' : Heap} {tk : Nat} (ok : OkP X W P ρ s) (w : a ∈ W) (f : X.sE.heap.get? a = Option.none) (hno : ∀ p ∈ ρ, ∀ ns, p.2 ≠ .own a ns) {vs : List Value} (hl : s.heap.PlainList a vs.toArray)
    (hsb : Heap.ExtBut a s.heap h') (hth : ∃ o, h'.get? a = some o) : OkP X W P ρ { s with heap := h', toks := tk } := by
  obtain ⟨oa, hoa, _, na, hda⟩ := hl.isList
  have hold : ∀ y ov', Holds1 s.heap X.env y ov' → Holds1 h' X.env y ov' := by
    intro y ov' hh
    rcases hh with ⟨b, m, n, e⟩ | ⟨b, c, e, n⟩
    · refine .inl ⟨b, m, n.extBut hsb fun z => ?_, e⟩
      obtain ⟨o', es, ep, ho', hd', _⟩ := n
      rw [z, hoa] at ho'; cases ho'
      rw [hda] at hd'; cases hd'
    · refine .inr ⟨b, c, e, ?_⟩
      obtain ⟨o', ho', hd'⟩ := n
      refine ⟨o', hsb _ _ (fun z => ?_) ho', hd'⟩
      rw [z, hoa] at ho'; cases ho'
      rw [hda] at hd'; cases hd'
  refine ⟨⟨⟨ok.ok.ext.ext.extBut f hsb, ok.ok.ext.gens, ok.ok.ext.os⟩, ok.ok.nd, fun p hp => ?_, ok.ok.own, fun b hb => ?_⟩, ok.prot.extButW hsb w⟩
  · obtain g | ⟨⟨ov', h2, h3⟩, fr'⟩ := ok.ok.ent _ hp
    · exact .inl g
    · refine .inr ⟨⟨ov', hold _ _ h2, ?_⟩, fr'⟩
      have hn := hno p hp
      obtain ⟨y, ent⟩ := p
      cases ent with
      | un => trivial
      | val b d => obtain ⟨v, e, rr⟩ := h3; exact ⟨v, e, rr.extBut hsb (.inl w)⟩
      | tmp b d =>
        obtain ⟨v, e, rr, ex⟩ := h3
        refine ⟨v, e, ?_, ex⟩
        cases d with
        | list ds =>
          obtain ⟨b, us, rfl, hl2, hr2⟩ := rr
          refine ⟨b, us, rfl, hl2.extBut hsb fun z => ?_, hr2.extBut hsb (.inl w)⟩
          obtain ⟨o, ho⟩ := ex b rfl
          rw [z, f] at ho; cases ho
        | _ => exact Rep.extBut rr hsb (.inl w)
      | own b ks =>
        obtain ⟨e, w', f', us, hl2, hr2⟩ := h3
        have : b ≠ a := fun z => hn ks (by rw [z])
        exact ⟨e, w', f', us, hl2.extBut hsb this, hr2.extBut hsb (.inl w)⟩
      | gl v => cases h3
  · obtain ⟨o, ho⟩ := ok.ok.wal b hb
    by_cases hba : b = a
    · subst hba; exact hth
    · exact ⟨o, hsb b o hba ho⟩

/-- what stands within a clause -/
def inner (elt : Expr) (gens : List Comprehension) (e : Expr) (acc : Value) (env : Env) (j : Nat) : Sem Unit := match gens[j]? with
  | some g' => do
    let x ← eval g'.iter env
    standAt g'.iter.pos
    let x ← if g'.is_async != 0 then foldedIterable g'.iter x else foldedSetIterable g'.iter env x
    let _ ← runOwn (.compStart e j (← holding [x] (if g'.is_async != 0 then asyncIter x else pyIter x)) acc env) env
  | Option.none => do let _ ← call (.builtin "list.append") [acc, ← eval elt env]
theorem compTurn_list (elt : Expr) (gens : List Comprehension) (scope : Scope) (pos : Pos) (j : Nat) (it acc : Value) (env : Env) (t iter : Expr) (ifs : List Expr) (hg : gens[j]? = some ⟨t, iter, ifs, 0⟩) :
    compTurn (.ListComp elt gens scope pos) j it acc env = (standAt iter.pos >>= fun _ => pyNext it >>= fun r => match r with
      | Option.none => pure (.done .next)
      | some v => letOwnedTupleGo t it v >>= fun _ => PySem.assign t env v >>= fun _ =>
        (forIn ifs true fun c r => if r = true then do let ok ← isTrue c env (eval c env); pure (ForInStep.yield ok) else pure (ForInStep.yield r)) >>= fun ok =>
          if ok = true then inner elt gens (.ListComp elt gens scope pos) acc env (j + 1) >>= fun _ => again (.compLoop (.ListComp elt gens scope pos) j it acc env)
          else again (.compLoop (.ListComp elt gens scope pos) j it acc env)) := by
  unfold compTurn
  dsimp only
  rw [hg]
  dsimp only
  simp only [bne_self_eq_false, Bool.false_eq_true, if_false]
  congr 1
  funext _
  congr 1
  funext r
  cases r with
  | none => rfl
  | some v =>
    dsimp only
    congr 1
    funext _
    congr 1
    funext _
    congr 1
    funext ok
    cases ok with
    | false => rfl
    | true =>
      simp only [if_true]
      unfold inner
      cases gens[j + 1]? with
      | none => rfl
      | some g =>
        dsimp only
        cases h : (g.is_async != 0) with
        | true => simp only [if_true, bind_assoc, pure_bind]
        | false => simp only [Bool.false_eq_true, if_false, bind_assoc, pure_bind]

def NoOwn (ρ : List (Str × Ent)) : Prop := ∀ p ∈ ρ, ∀ a ns, p.2 ≠ .own a ns
theorem PutU.noOwn {ρ ρ' : List (Str × Ent)} {x : Str} {e : Ent} (h : PutU ρ x e ρ') (he : ∀ a ns, e ≠ .own a ns) (n : NoOwn ρ) : NoOwn ρ' := by
  induction h with
  | here =>
    intro p hp
    rcases List.mem_cons.mp hp with rfl | hp
    · exact he
    · exact n p (.tail _ hp)
  | there _ ih =>
    intro p hp
    rcases List.mem_cons.mp hp with rfl | hp
    · exact n _ (.head _)
    · exact ih he (fun q hq => n q (.tail _ hq)) p hp
theorem LayOf.noOwn {B : Base} {ρp ρ : List (Str × Ent)} {ns : List (Str × NameKind)} (h : LayOf B ρp ns ρ) : NoOwn ρ := by
  intro p hp a ns e
  rcases h.cases p hp with ⟨hu, _⟩ | ⟨_, e', _, _, he⟩ | ⟨_, v, hv, _⟩
  · rw [hu] at e; cases e
  · rw [he] at e; exact absurd e (Ent.ro_own _ _ _)
  · rw [hv] at e; cases e
structure TgtC (X : Cx) (W : List Addr) (ρ : List (Str × Ent)) (t : Expr) (d : D) (ρ' : List (Str × Ent)) : Prop where
  tgt : Tgt X W ρ t d ρ'
  back : Back ρ' ρ
  noOwn : NoOwn ρ → NoOwn ρ'
theorem tgtC_name {x : Str} {p : Pos} {d : D} {ρ' : List (Str × Ent)} (F : Fine X) (hp : PutU ρ x (.val true d) ρ') : TgtC X W ρ (.Name x p) d ρ' :=
  ⟨tgt_name F hp.put, hp.back rfl, hp.noOwn fun _ _ e => by cases e⟩

/-- what is run within -/
def InnerOk (X : Cx) (W : List Addr) (acc : Addr) (elt : Expr) (gens : List Comprehension) (e : Expr) (j : Nat) (ρ : List (Str × Ent)) (out : List D) : Prop :=
  ∀ P s ds, OkP X W P ρ s → AccIs W s.heap acc ds → ds.length + out.length ≤ 1000000 → wpAny X.M X.A (inner elt gens e (.ref acc) X.env j) (fun _ s' => OkP X W P ρ s' ∧ AccIs W s'.heap acc (ds ++ out)) NoE s
structure AccAt (X : Cx) (W : List Addr) (acc : Addr) : Prop where
  mem : acc ∈ W
  fresh : X.sE.heap.get? acc = Option.none

theorem inner_emit {acc : Addr} {elt : Expr} {gens : List Comprehension} {e : Expr} {j : Nat} {v : D} (F : Fine X) (ac : AccAt X W acc) (no : NoOwn ρ) (hg : gens[j]? = Option.none) (h : Ev X W ρ .s elt v) : InnerOk X W acc elt gens e j ρ [v] := fun P s ds ok ha hz => by
  unfold inner
  rw [hg]
  show wpAny _ _ (do let x ← eval elt X.env; let _ ← call (.builtin "list.append") [.ref acc, x]; pure ()) _ _ s
  refine wpAny_bind (wpAny_mono (h s ok.ok) (fun x s₁ k => wpAny_bind ?_) fun _ _ x => x)
  obtain ⟨a, vs, e, hl, hr⟩ := ha.ext k.1.ext
  cases e
  have ok₁ := ok.mono k.1
  have hn := hr.length
  simp at hz
  refine wpAny_list_append_plain hl (fun h' hl' hsb => wpAny_pure ?_) (by rw [List.size_toArray, hn, sizeLine_eq]; omega)
  have hth : ∃ o, h'.get? acc = some o := by obtain ⟨_, ho⟩ := hl'; exact ⟨_, ho⟩
  refine ⟨ok₁.grow (tk := s₁.toks) ac.mem ac.fresh (fun p hp ns => no p hp acc ns) hl hsb.extBut hth, acc, vs ++ [x], rfl, by simpa using hl', ?_⟩
  exact (hr.extBut hsb.extBut (.inl ac.mem)).append (.cons (Rep.extBut k.2 hsb.extBut (.inl ac.mem)) .nil)

theorem comp_loop {acc : Addr} {elt : Expr} {gens : List Comprehension} {scope : Scope} {pos : Pos} {j : Nat} {t iter : Expr} {ifs : List Expr} (hg : gens[j]? = some ⟨t, iter, ifs, 0⟩) {α : Type} {xs : List α} {φ : α → D} {out : α → List D} (F : Fine X) (no : NoOwn ρ)
    (turn : ∀ x ∈ xs, ∃ ρ' c, TgtC X W ρ t (φ x) ρ' ∧ TstAll X W ρ' ifs c ∧ (c = true → NoOwn ρ' → InnerOk X W acc elt gens (.ListComp elt gens scope pos) (j + 1) ρ' (out x)) ∧ (c = false → out x = []))
    (hgo : ∀ it v M A E Q (s : Shared), (∃ o vs, s.heap.get? it = some o ∧ o.data = .fields vs ∧ (o.cls = .type "list_iterator" ∨ o.cls = .type "range_iterator")) → Q () s → wpAny M A (letOwnedTupleGo t (.ref it) v) Q E s)
    {P : List Pr} {s : Shared} {it : Addr} {G : List Pr} {ds : List D} (ok : OkP X W P ρ s) (hit : ItOk W s.heap it G (xs.map φ) 0) (hfr : X.sE.heap.get? it = Option.none) (hw : it ∉ W) (hp : ∀ o, Pr.obj it o ∉ P)
    (ha : AccIs W s.heap acc ds) (hz : ds.length + (xs.flatMap out).length ≤ 1000000) :
    codeAny X.M X.A (.compLoop (.ListComp elt gens scope pos) j (.ref it) (.ref acc) X.env) (fun r s' => r = .ok .next ∧ OkP X W P ρ s' ∧ AccIs W s'.heap acc (ds ++ xs.flatMap out)) s := by
  refine codeAny_loop rfl (fun k s' => ∃ i, k = xs.length + 1 - i ∧ i ≤ xs.length ∧ OkP X W P ρ s' ∧ ItOk W s'.heap it G (xs.map φ) i ∧ AccIs W s'.heap acc (ds ++ (xs.take i).flatMap out)) (fun k s₃ hI => ?_) (xs.length + 1) ⟨0, rfl, Nat.zero_le _, ok, hit, by simpa using ha⟩
  obtain ⟨i, rfl, hi, ok₃, hit₃, ha₃⟩ := hI
  show wpAny _ _ ((compTurn (.ListComp elt gens scope pos) j (.ref it) (.ref acc) X.env).onRaise (fun x => do noteFrame x X.env; theTreesLotGoes x)) _ _ s₃
  refine wpAny_onRaise (wpAny_mono (E := NoE) ?_ (fun _ _ x => x) fun _ _ x => x.elim)
  rw [compTurn_list _ _ _ _ _ _ _ _ _ _ _ hg]
  refine wpAny_bind (wpAny_standAt (wpAny_bind ?_))
  by_cases hlt : i < xs.length
  · have hd : (xs.map φ)[i]? = some (φ xs[i]) := by simp [hlt]
    refine it_next F ok₃ hit₃ hd hfr hw hp fun v s₄ ok₄ hit₄ rv mv₄ => ?_
    have ha₄ := mv₄ _ _ _ ha₃
    obtain ⟨o, vs, ho, hdo⟩ := hit₄.obj
    have hcls : o.cls = .type "list_iterator" ∨ o.cls = .type "range_iterator" := by
      generalize xs.map φ = zs at hit₄
      cases hit₄ with
      | list _ _ _ _ _ hi => obtain ⟨o', ho', hc, _⟩ := hi; rw [ho] at ho'; cases ho'; exact .inl hc
      | range hi => have e := ho.symm.trans hi; rw [Option.some.inj e]; exact .inr rfl
    refine wpAny_bind (hgo it v _ _ _ _ _ ⟨o, vs, ho, hdo, hcls⟩ ?_)
    obtain ⟨ρ', c, tg, tst, hin, hout⟩ := turn xs[i] (List.getElem_mem hlt)
    have ok₅ : OkP X W (.obj it o :: (G ++ P)) ρ s₄ := ⟨ok₄.ok, hit₄.allProt ho hw ok₄.prot⟩
    refine wpAny_bind (wpAny_mono (tg.tgt _ _ _ ok₅ rv) (fun _ s₅ h₅ => ?_) fun _ _ x => x)
    obtain ⟨ok₆, mv₅⟩ := h₅
    have ha₅ := mv₅ _ _ _ ha₄
    refine wpAny_bind (wpAny_mono (tst s₅ ok₆.ok) (fun b s₆ k => ?_) fun _ _ x => x)
    obtain ⟨k, rfl⟩ := k
    have ok₇ := ok₆.mono k
    have ha₆ := ha₅.ext k.ext
    have fin : ∀ s₇, OkP X W (.obj it o :: (G ++ P)) ρ' s₇ → AccIs W s₇.heap acc (ds ++ (xs.take i).flatMap out ++ out xs[i]) → ∃ m, m < xs.length + 1 - i ∧ ∃ i', m = xs.length + 1 - i' ∧ i' ≤ xs.length ∧ OkP X W P ρ s₇ ∧ ItOk W s₇.heap it G (xs.map φ) i' ∧ AccIs W s₇.heap acc (ds ++ (xs.take i').flatMap out) := fun s₇ ok₈ ha₈ => by
      refine ⟨xs.length + 1 - (i + 1), by omega, i + 1, rfl, hlt, ⟨tg.back _ _ _ ok₈.ok, fun p hp => ok₈.prot p (.tail _ (List.mem_append.mpr (.inr hp)))⟩, hit₄.prot ho ok₈.prot, ?_⟩
      have e : (xs.take (i + 1)).flatMap out = (xs.take i).flatMap out ++ out xs[i] := by
        rw [List.take_add_one, List.flatMap_append]
        simp [hlt]
      rw [e, ← List.append_assoc]
      exact ha₈
    cases b with
    | true =>
      simp only [if_true]
      have hlen : (ds ++ (xs.take i).flatMap out).length + (out xs[i]).length ≤ 1000000 := by
        have e : ((xs.take i).flatMap out).length + (out xs[i]).length ≤ (xs.flatMap out).length := by
          have e1 : xs.flatMap out = (xs.take (i + 1)).flatMap out ++ (xs.drop (i + 1)).flatMap out := by rw [← List.flatMap_append, List.take_append_drop]
          have e2 : (xs.take (i + 1)).flatMap out = (xs.take i).flatMap out ++ out xs[i] := by
            rw [List.take_add_one, List.flatMap_append]
            simp [hlt]
          rw [e1, e2, List.length_append, List.length_append]; omega
        rw [List.length_append]; omega
      refine wpAny_bind (wpAny_mono (hin rfl (tg.noOwn no) _ _ _ ok₇ ha₆ hlen) (fun _ s₇ h₇ => wpAny_pure ⟨rfl, fin s₇ h₇.1 h₇.2⟩) fun _ _ x => x)
    | false =>
      simp only [Bool.false_eq_true, if_false]
      exact wpAny_pure ⟨rfl, fin s₆ ok₇ (by rw [hout rfl, List.append_nil]; exact ha₆)⟩
  · have e : i = xs.length := by omega
    subst e
    refine it_end F ok₃ hit₃ (by simp) hfr hw hp fun s₄ ok₄ mv₄ => ?_
    refine wpAny_pure ⟨rfl, ok₄, ?_⟩
    have := mv₄ _ _ _ ha₃
    rw [List.take_length] at this
    exact this

theorem comp_start {acc : Addr} {elt : Expr} {gens : List Comprehension} {scope : Scope} {pos : Pos} {j : Nat} {t iter : Expr} {ifs : List Expr} (hg : gens[j]? = some ⟨t, iter, ifs, 0⟩) {s : Shared} {it : Addr} {G : List Pr} {ds : List D} {i : Nat} {R : Result → Shared → Prop} (hit : ItOk W s.heap it G ds i)
    (h : codeAny X.M X.A (.compLoop (.ListComp elt gens scope pos) j (.ref it) (.ref acc) X.env) R s) : codeAny X.M X.A (.compStart (.ListComp elt gens scope pos) j (.ref it) (.ref acc) X.env) R s := by
  refine codeAny_of_tree ?_
  show wpAny _ _ ((compStart (.ListComp elt gens scope pos) j (.ref it) (.ref acc) X.env).onRaise (fun x => do noteFrame x X.env; standAt theWindowsPlace)) _ _ s
  refine wpAny_onRaise (wpAny_mono (E := NoE) ?_ (fun _ _ x => x) fun _ _ x => x.elim)
  unfold compStart
  have hc : (clausesOf (.ListComp elt gens scope pos))[j]? = some ⟨t, iter, ifs, 0⟩ := hg
  rw [hc]
  show wpAny _ _ (ask >>= _) _ _ s
  refine wpAny_bind (wpAny_askSetting (wpAny_ite ?_))
  split
  · first
      | exact wpAny_bind (wpAny_pure (wpAny_pure (And.intro rfl h)))
      | exact wpAny_pure (And.intro rfl h)
  · have hp : wpAny X.M X.A (pyIter (.ref it)) (fun v s' => v = .ref it ∧ s' = s) NoE s := by
      cases hit with
      | list _ _ _ _ _ hi => exact wpAny_pyIter_listiter hi ⟨rfl, rfl⟩
      | range hi => exact wpAny_pyIter_rangeiter hi ⟨rfl, rfl⟩
    have fin : wpAny X.M X.A (pyIter (.ref it) >>= fun v => again (.compLoop (.ListComp elt gens scope pos) j v (.ref acc) X.env)) (fun fin s' => match fin with
      | .done f => R (.ok f) s'
      | .again c' => c'.quiet = true ∧ codeAny X.M X.A c' R s') NoE s :=
      wpAny_bind (wpAny_mono hp (fun v s' q => by obtain ⟨rfl, rfl⟩ := q; exact wpAny_pure (And.intro rfl h)) fun _ _ x => x)
    first
      | exact wpAny_bind (wpAny_rule (wpAny_bind (wpAny_standAt fin)))
      | (refine wpAny_bind (wpAny_rule ?_); show wpAny _ _ (standAt iter.pos >>= _) _ _ s; exact wpAny_bind (wpAny_standAt fin))

theorem inner_gen {acc : Addr} {elt : Expr} {gens : List Comprehension} {scope : Scope} {pos : Pos} {j : Nat} {t iter : Expr} {ifs : List Expr} (hg : gens[j]? = some ⟨t, iter, ifs, 0⟩) {α : Type} {xs : List α} {φ : α → D} {out : α → List D} (F : Fine X) (no : NoOwn ρ)
    (src : Src X W ρ iter (xs.map φ))
    (turn : ∀ x ∈ xs, ∃ ρ' c, TgtC X W ρ t (φ x) ρ' ∧ TstAll X W ρ' ifs c ∧ (c = true → NoOwn ρ' → InnerOk X W acc elt gens (.ListComp elt gens scope pos) (j + 1) ρ' (out x)) ∧ (c = false → out x = []))
    (hf : ∀ env x, foldedSetIterable iter env x = pure x := by intro _ _; rfl)
    (hgo : ∀ it v M A E Q (s : Shared), (∃ o vs, s.heap.get? it = some o ∧ o.data = .fields vs ∧ (o.cls = .type "list_iterator" ∨ o.cls = .type "range_iterator")) → Q () s → wpAny M A (letOwnedTupleGo t (.ref it) v) Q E s := by intro _ _ _ _ _ _ _ _ q; exact wpAny_pure q) :
    InnerOk X W acc elt gens (.ListComp elt gens scope pos) j ρ (xs.flatMap out) := fun P s ds ok ha hz => by
  unfold inner
  rw [hg]
  show wpAny _ _ (eval iter X.env >>= fun x => standAt iter.pos >>= fun _ => foldedSetIterable iter X.env x >>= fun x => holding [x] (pyIter x) >>= fun it => runOwn (.compStart (.ListComp elt gens scope pos) j it (.ref acc) X.env) X.env >>= fun _ => pure ()) _ _ s
  refine wpAny_bind (wpAny_mono (src s ok.ok) (fun v s₁ k₁ => wpAny_bind (wpAny_standAt ?_)) fun _ _ x => x)
  rw [hf, pure_bind]
  refine wpAny_bind (wpAny_holding (it_start F (ok.ok.mono k₁.1) k₁.2 fun it G s₂ k₂ hit hfr => ?_))
  have kk := k₁.1.trans k₂
  have ok₂ := ok.mono kk
  have hfE : X.sE.heap.get? it = Option.none := (ok.ok.ext.trans k₁.1.wider).ext.fresh hfr
  have hw : it ∉ W := fun z => by obtain ⟨o, ho⟩ := (ok.ok.mono k₁.1).wal it z; rw [hfr] at ho; cases ho
  have hpP : ∀ o, Pr.obj it o ∉ P := fun o z => by
    have y := (ok.mono k₁.1).prot _ z
    have y1 := y.1
    rw [hfr] at y1; cases y1
  refine wpAny_bind (wpAny_runOwn ?_)
  refine codeAny_mono (comp_start hg hit (comp_loop hg F no turn hgo ok₂ hit hfE hw hpP (ha.ext kk.ext) hz)) fun r s' q => ?_
  obtain ⟨rfl, q⟩ := q
  exact wpAny_pure q
end
end Mine



namespace Mine
open PySem PyProof.Rows

/-- the frame of a comprehension -/
theorem env_comp {X : Cx} {W : List Addr} {ρ ρc : List (Str × Ent)} {s₂ s₃ : Shared} {scope : Scope} {acc : Addr} {A' : Around} {Q : Env → Shared → Prop} (F : Fine X) (hs₂ : Ok X W ρ s₂) (k : SExt [] s₂ s₃) (hacc : s₂.heap.get? acc = Option.none) (hacc' : ∃ o, s₃.heap.get? acc = some o)
    (nd : (scope.names.map (·.1)).Nodup) (hk : scope.kind = .function) (hκ : ∀ x, (x, NameKind.free) ∈ scope.names → x ∈ X.κ) (lo : LayOf X.B ρ scope.names ρc)
    (q : ∀ env s', env.locals = s₃.heap.objs.size →
      Fine ⟨X.B, X.A, { env with scope := relabel scope X.env }, s₂, X.n, [], closable scope.names⟩ →
      OkP ⟨X.B, X.A, { env with scope := relabel scope X.env }, s₂, X.n, [], closable scope.names⟩ (acc :: W) [] ρc s' → (∀ b o, s₃.heap.get? b = some o → s'.heap.get? b = some o) → Q env s') :
    wpAny X.M A' (newFunctionEnv scope X.env.globals (clos X.env scope.names []) [] X.env.qual Option.none .none (some X.env)) Q NoE s₃ := by
  have hs₃ := hs₂.mono k
  have hbase : Ext X.B.T X.B.h₁ s₂.heap := Ok.base (X := X) F hs₂
  have cellOf' : ∀ x, (x, NameKind.free) ∈ scope.names → ∃ c ov, X.env.cells.lookup x = some c ∧ s₃.heap.IsCell c ov ∧ ∀ e, (x, e) ∈ ρ → e.known = true → ∃ v, ov = some v ∧ EntOk s₂.heap (acc :: W) s₃.heap (some v) e.ro := by
    intro x hx
    obtain ⟨e₀, hm₀, hkn₀⟩ := lo.free_mem x hx
    obtain ⟨v₀, z, _⟩ | ⟨⟨ov, h1, h2⟩, _⟩ := hs₃.ent _ hm₀
    · have z' : e₀ = .gl v₀ := z
      rw [z'] at hkn₀; cases hkn₀
    have kd := F.kd x (hκ x hx)
    rcases h1 with ⟨a, _⟩ | ⟨a, c, e, n⟩
    · have a' : X.env.kindOf x = some .local := a
      rw [a'] at kd; rcases kd with z | z <;> cases z
    · refine ⟨c, ov, e, n, fun e₁ hm₁ hkn₁ => ?_⟩
      have he : e₁ = e₀ := nodup_unique hs₃.nd hm₁ hm₀
      subst he
      have msk : ∀ {v : Value} {d : D}, Rep W s₂.heap v d → Rep (acc :: W) s₃.heap v d := fun r => r.mask k.ext.strict hacc
      obtain ⟨v₀, z, _⟩ | ⟨⟨ov₂, h1₂, h2₂⟩, _⟩ := hs₂.ent _ hm₀
      · have z' : e₁ = .gl v₀ := z
        rw [z'] at hkn₀; cases hkn₀
      have same : ov₂ = ov := by
        rcases h1₂ with ⟨a', _⟩ | ⟨_, c', e', n'⟩
        · have a'' : X.env.kindOf x = some .local := a'
          rw [a''] at kd; rcases kd with z | z <;> cases z
        · rw [e] at e'; cases e'
          obtain ⟨o, ho, hd⟩ := n'
          obtain ⟨o', ho', hd'⟩ := n
          have := k.ext.strict _ _ ho
          rw [this] at ho'; cases ho'
          rw [hd] at hd'; cases hd'; rfl
      subst same
      cases e₁ with
      | un => cases hkn₀
      | gl v => cases hkn₀
      | val b d =>
        obtain ⟨v, e, r⟩ := h2₂
        exact ⟨v, e, v, rfl, msk r⟩
      | tmp b d =>
        obtain ⟨v, e, r, ex⟩ := h2₂
        refine ⟨v, e, v, rfl, ?_, fun b' e' => ?_⟩
        · cases d with
          | list ds =>
            obtain ⟨a', vs, rfl, hl, hr⟩ := r
            exact ⟨a', vs, rfl, Mine.Heap.IsList.map hl (k.ext.strict a'), hr.mask k.ext.strict hacc⟩
          | _ => exact msk r
        · obtain ⟨o, ho⟩ := ex b' e'
          exact hs₂.ext.ext.there b' o ho
      | own a' ns =>
        obtain ⟨e, w, f, vs, hl, hr⟩ := h2₂
        refine ⟨_, e, _, rfl, ⟨a', vs, rfl, Mine.Heap.IsList.map hl (k.ext.strict a'), reps_ints_any hr⟩, fun b' e' => ?_⟩
        cases e'
        obtain ⟨_, ho⟩ := hl
        exact ⟨_, ho⟩
  simp only [newFunctionEnv, Option.isSome_some, if_true]
  refine wpAny_bind (wpAny_alloc ?_)
  refine wpAny_bind (wpAny_layCells _ (fun name kind cells => by cases hkc : kind == NameKind.cell <;> simp [hkc]) _ _ _ _ ?_)
  rw [show ({ s₃ with heap := s₃.heap.push { cls := .type "dict", data := .dict #[] } } : Shared).heap.objs.size = s₃.heap.objs.size + 1 from Heap.size_push ..]
  have clo_of : ∀ x c, (clos X.env scope.names []).lookup x = some c → (x, NameKind.free) ∈ scope.names ∧ X.env.cells.lookup x = some c := fun x c h => by
    obtain ⟨h1, h2⟩ := clos_lookup h
    obtain ⟨c', _, e, _⟩ := cellOf' x h1
    rw [e] at h2 ⊢
    exact ⟨h1, by rw [h2]; rfl⟩
  have la := laid1 (h := s₃.heap) (names := scope.names) (closure := clos X.env scope.names []) nd (.type "dict")
    (fun x y c h1 h2 => F.cells x y c (clo_of x c h1).2 (clo_of y c h2).2)
    (fun x c h1 => by
      obtain ⟨c', ov, e, n, _⟩ := cellOf' x (clo_of x c h1).1
      rw [(clo_of x c h1).2] at e; cases e
      obtain ⟨o, ho, _⟩ := n; exact ⟨o, ho⟩)
  generalize hcs : cellsFrom (s₃.heap.objs.size + 1) scope.names (clos X.env scope.names []) = cells at la ⊢
  generalize henv : ({ scope := scope, locals := s₃.heap.objs.size, globals := X.env.globals, cells := cells, qual := X.env.qual, func := Option.none, code := X.env.code, frame := X.env.frame, builtins := X.env.builtins } : Env) = env
  have elo : env.locals = s₃.heap.objs.size := by rw [← henv]
  have ece : env.cells = cells := by rw [← henv]
  have kk : ∀ x k, (x, k) ∈ scope.names → Env.kindOf { env with scope := relabel scope X.env } x = some (if (k == NameKind.free && X.env.scope.kind == ScopeKind.function && X.env.kindOf x == some NameKind.cell) then NameKind.cell else k) :=
    fun x k h => relabel_mem nd h
  have kf : ∀ x, (x, NameKind.free) ∈ scope.names → Env.kindOf { env with scope := relabel scope X.env } x = some .cell ∨ Env.kindOf { env with scope := relabel scope X.env } x = some .free := fun x h => by
    rw [kk x _ h]
    split
    · exact .inl rfl
    · exact .inr rfl
  have F' : Fine ⟨X.B, X.A, { env with scope := relabel scope X.env }, s₂, X.n, [], closable scope.names⟩ :=
    ⟨hk, by rw [← henv]; exact F.globals, by rw [← henv]; exact F.builtins, hbase, (fun _ h => nomatch h), (fun x hx => by
      rcases closable_mem hx with h | h
      · exact .inl (kk x _ h)
      · exact kf x h), F.hnd, F.dep, F.uni, fun x y c h1 h2 => la.inj x y c (by rw [← ece]; exact h1) (by rw [← ece]; exact h2)⟩
  have ok : OkP ⟨X.B, X.A, { env with scope := relabel scope X.env }, s₂, X.n, [], closable scope.names⟩ (acc :: W) [] ρc { s₃ with heap := _, toks := s₃.toks } :=
    ok_new (X := ⟨X.B, X.A, { env with scope := relabel scope X.env }, s₂, X.n, [], closable scope.names⟩) (s₃ := s₃) k nd la lo elo ece (fun x h => kk x _ h) (fun x h => kk x _ h) (fun x h => kk x _ h) kf
      (fun x e hm hkn hx => by
        obtain ⟨c, ov, e', n, r⟩ := cellOf' x hx
        obtain ⟨v, rfl, r'⟩ := r e hm hkn
        exact ⟨c, v, by rw [clos_some hx, e']; rfl, n, r'⟩)
      (fun a ha => by
        rcases List.mem_cons.mp ha with rfl | ha
        · exact hacc'
        · exact hs₃.wal a ha) fun p hp => (nomatch hp)
  refine wpAny_bind ?_
  rw [List.forIn_nil]
  exact wpAny_pure (wpAny_pure (q env _ elo F' ok la.keep))

section
variable {X : Cx} {W : List Addr} {ρ : List (Str × Ent)}
/-- a comprehension -/
theorem comp_gen {elt : Expr} {t iter : Expr} {ifs : List Expr} {rest : List Comprehension} {scope : Scope} {pos : Pos} {α : Type} {xs : List α} {φ : α → D} {out : α → List D} {ρc : List (Str × Ent)} (F : Fine X)
    (nd : (scope.names.map (·.1)).Nodup) (hk : scope.kind = .function) (hκ : ∀ x, (x, NameKind.free) ∈ scope.names → x ∈ X.κ) (hloc : ∃ x, (x, NameKind.local) ∈ scope.names) (lo : LayOf X.B ρ scope.names ρc) (src : Src X W ρ iter (xs.map φ))
    (turn : ∀ X' W' acc, X'.B = X.B → X'.n = X.n → X'.κ = closable scope.names → Fine X' → AccAt X' W' acc → ∀ x ∈ xs, ∃ ρ' c, TgtC X' W' ρc t (φ x) ρ' ∧ TstAll X' W' ρ' ifs c ∧
      (c = true → NoOwn ρ' → InnerOk X' W' acc elt (⟨t, iter, ifs, 0⟩ :: rest) (.ListComp elt (⟨t, iter, ifs, 0⟩ :: rest) scope pos) 1 ρ' (out x)) ∧ (c = false → out x = []))
    (hz : (xs.flatMap out).length ≤ 1000000)
    (hf : ∀ env x, foldedSetIterable iter env x = pure x)
    (hgo : ∀ it v M A E Q (s : Shared), (∃ o vs, s.heap.get? it = some o ∧ o.data = .fields vs ∧ (o.cls = .type "list_iterator" ∨ o.cls = .type "range_iterator")) → Q () s → wpAny M A (letOwnedTupleGo t (.ref it) v) Q E s)
    {use : Option (Value → Sem Unit)} {s : Shared} {Q : Value → Shared → Prop} (hs : Ok X W ρ s)
    (q : ∀ acc C s', s.heap.get? C = Option.none → (∃ m, s'.heap.Ns C m) → SExt [] s s' → Post .f W s.heap (.ref acc) s'.heap (.list (xs.flatMap out)) → compPost X.M X.A NoE use Q (.ref acc) C (.ok .next) s') :
    wpAny X.M X.A (comprehension (.ListComp elt (⟨t, iter, ifs, 0⟩ :: rest) scope pos) scope X.env (firstIterPos (⟨t, iter, ifs, 0⟩ :: rest) pos) (newList []) false (eval iter X.env) use) Q NoE s := by
  have hcells : ∀ x, (x, NameKind.free) ∈ scope.names → ∃ c, X.env.cells.lookup x = some c := by
    intro x hx
    obtain ⟨e₀, hm₀, hkn₀⟩ := lo.free_mem x hx
    obtain ⟨v₀, z, _⟩ | ⟨⟨ov, h1, h2⟩, _⟩ := hs.ent _ hm₀
    · have z' : e₀ = .gl v₀ := z
      rw [z'] at hkn₀; cases hkn₀
    have kd := F.kd x (hκ x hx)
    rcases h1 with ⟨a, _⟩ | ⟨a, c, e, n⟩
    · have a' : X.env.kindOf x = some .local := a
      rw [a'] at kd; rcases kd with z | z <;> cases z
    · exact ⟨c, e⟩
  refine wpAny_comprehension_free (g := ⟨t, iter, ifs, 0⟩) (gs := rest) rfl (hf _) (closureFor_clos hcells) hk (fun x hx hl => by obtain ⟨n, k⟩ := x; dsimp only at hl; subst hl; exact nodup_lookup nd hx) ?_
  refine wpAny_mono (src s hs) (fun v s₁ k₁ => ?_) fun _ _ x => x
  have hs₁ := hs.mono k₁.1
  refine it_start F hs₁ k₁.2 fun it G s₂ k₂ hit hfr => ?_
  refine wpAny_newObj_type (hd := by size_fits) ?_
  have hacc : s₂.heap.get? s₂.heap.objs.size = Option.none := get_size _
  have kp := k₂.trans (sext_push (T := []) s₂ { cls := .type "list", dict := Option.none, data := .seq ([] : List Value).toArray })
  have hacc₁ : s₁.heap.get? s₂.heap.objs.size = Option.none := k₂.ext.fresh hacc
  have hget : (s₂.heap.push { cls := .type "list", dict := Option.none, data := .seq ([] : List Value).toArray }).get? s₂.heap.objs.size = some { cls := .type "list", dict := Option.none, data := .seq ([] : List Value).toArray } := Heap.get?_push_size _ rfl
  refine env_comp F hs₁ kp hacc₁ ⟨_, hget⟩ nd hk hκ lo fun env s' elo F' ok keep => ?_
  have hne : ∀ b o, s₂.heap.get? b = some o → s'.heap.get? b = some o := fun b o e => keep b o (Heap.get?_push_of_some _ e)
  have hit' : ItOk (s₂.heap.objs.size :: W) s'.heap it G (xs.map φ) 0 := by
    generalize xs.map φ = zs at hit
    cases hit with
    | @list l o vs ds i ep hl hc hd hw hr hi =>
      refine .list (hne _ _ hl) hc hd (fun z => ?_) (hr.mask hne hacc) ?_
      · rcases List.mem_cons.mp z with z | z
        · rw [z, hacc] at hl; cases hl
        · exact hw z
      · obtain ⟨o', ho', r'⟩ := hi; exact ⟨o', hne _ _ ho', r'⟩
    | range hi => exact .range (hne _ _ hi)
  have hwit : it ∉ s₂.heap.objs.size :: W := fun z => by
    obtain ⟨o, _, ho, _⟩ := hit.obj
    rcases List.mem_cons.mp z with z | z
    · rw [z, hacc] at ho; cases ho
    · obtain ⟨o', ho'⟩ := hs₁.wal it z; rw [hfr] at ho'; cases ho'
  have hacc' : AccIs (s₂.heap.objs.size :: W) s'.heap s₂.heap.objs.size [] := ⟨_, [], rfl, ⟨_, keep _ _ hget⟩, .nil⟩
  have ac : AccAt ⟨X.B, X.A, { env with scope := relabel scope X.env }, s₁, X.n, [], closable scope.names⟩ (s₂.heap.objs.size :: W) s₂.heap.objs.size := ⟨.head _, hacc₁⟩
  have main := comp_start (X := ⟨X.B, X.A, { env with scope := relabel scope X.env }, s₁, X.n, [], closable scope.names⟩) (W := s₂.heap.objs.size :: W) (acc := s₂.heap.objs.size) (elt := elt) (gens := ⟨t, iter, ifs, 0⟩ :: rest) (scope := scope) (pos := pos) (j := 0) rfl hit'
    (comp_loop (X := ⟨X.B, X.A, { env with scope := relabel scope X.env }, s₁, X.n, [], closable scope.names⟩) (ρ := ρc) rfl F' lo.noOwn (turn _ _ _ rfl rfl rfl F' ac) hgo ok hit' hfr hwit (fun o z => nomatch z) hacc' (by simpa using hz))
  refine codeAny_mono main fun r s'' hr => ?_
  obtain ⟨rfl, ok'', ha''⟩ := hr
  have hns : ∃ m, s''.heap.Ns env.locals m := by
    obtain ⟨x, hx⟩ := hloc
    obtain ⟨v, z, _⟩ | ⟨⟨ov, h1, _⟩, _⟩ := ok''.ok.ent _ (lo.loc_mem x hx)
    · cases z
    · have kx : Env.kindOf { env with scope := relabel scope X.env } x = some .local := by
        have := relabel_mem (env := X.env) nd hx
        exact this
      rcases h1 with ⟨_, m, n, _⟩ | ⟨a, _⟩
      · exact ⟨m, n⟩
      · have a' : Env.kindOf { env with scope := relabel scope X.env } x = some .cell ∨ Env.kindOf { env with scope := relabel scope X.env } x = some .free := a
        rw [kx] at a'
        rcases a' with z | z <;> cases z
  refine q _ _ _ (by rw [elo]; exact k₁.1.ext.fresh (kp.ext.fresh (get_size _))) hns (k₁.1.trans ⟨ok''.ok.ext.ext, ok''.ok.ext.gens, ok''.ok.ext.os⟩) ?_
  rw [List.nil_append] at ha''
  obtain ⟨a, vs, e, hl, hr⟩ := ha''
  cases e
  refine ⟨.list hl (fun z => ?_) (hr.less fun a ha => .tail _ ha), fun b e => by cases e; exact k₁.1.ext.fresh hacc₁⟩
  obtain ⟨o, ho⟩ := hs₁.wal _ z
  rw [hacc₁] at ho; cases ho

theorem ev_comp {elt : Expr} {t iter : Expr} {ifs : List Expr} {rest : List Comprehension} {scope : Scope} {pos : Pos} {α : Type} {xs : List α} {φ : α → D} {out : α → List D} {ρc : List (Str × Ent)} (F : Fine X)
    (nd : (scope.names.map (·.1)).Nodup) (hk : scope.kind = .function) (hκ : ∀ x, (x, NameKind.free) ∈ scope.names → x ∈ X.κ) (hloc : ∃ x, (x, NameKind.local) ∈ scope.names) (lo : LayOf X.B ρ scope.names ρc) (src : Src X W ρ iter (xs.map φ))
    (turn : ∀ X' W' acc, X'.B = X.B → X'.n = X.n → X'.κ = closable scope.names → Fine X' → AccAt X' W' acc → ∀ x ∈ xs, ∃ ρ' c, TgtC X' W' ρc t (φ x) ρ' ∧ TstAll X' W' ρ' ifs c ∧
      (c = true → NoOwn ρ' → InnerOk X' W' acc elt (⟨t, iter, ifs, 0⟩ :: rest) (.ListComp elt (⟨t, iter, ifs, 0⟩ :: rest) scope pos) 1 ρ' (out x)) ∧ (c = false → out x = []))
    (hz : (xs.flatMap out).length ≤ 1000000)
    (hf : ∀ env x, foldedSetIterable iter env x = pure x := by intro _ _; rfl)
    (hgo : ∀ it v M A E Q (s : Shared), (∃ o vs, s.heap.get? it = some o ∧ o.data = .fields vs ∧ (o.cls = .type "list_iterator" ∨ o.cls = .type "range_iterator")) → Q () s → wpAny M A (letOwnedTupleGo t (.ref it) v) Q E s := by intro _ _ _ _ _ _ _ _ q; exact wpAny_pure q) :
    Ev X W ρ .f (.ListComp elt (⟨t, iter, ifs, 0⟩ :: rest) scope pos) (.list (xs.flatMap out)) := fun s hs => by
  rw [eval_ListComp]
  refine comp_gen F nd hk hκ hloc lo src turn hz hf hgo (use := Option.none) hs fun acc C s' hC hns k p => ?_
  obtain ⟨m, hns⟩ := hns
  refine ⟨m, hns, fun h' hsb => ⟨⟨k.ext.sameBut hC hsb, k.gens, k.os⟩, p.1.extBut hsb.extBut (.inr (.ns hns)), p.2⟩⟩

/-- x = [..] with the comprehension on the right -/
theorem assign_comp {x : Str} {p spos : Pos} {elt : Expr} {t iter : Expr} {ifs : List Expr} {rest : List Comprehension} {scope : Scope} {pos : Pos} {α : Type} {xs : List α} {φ : α → D} {out : α → List D} {ρc ρ' : List (Str × Ent)} {sts : List Stmt} {N : Nrm} {R : Rtn} (F : Fine X)
    (nd : (scope.names.map (·.1)).Nodup) (hk : scope.kind = .function) (hκ : ∀ x, (x, NameKind.free) ∈ scope.names → x ∈ X.κ) (hloc : ∃ x, (x, NameKind.local) ∈ scope.names) (lo : LayOf X.B ρ scope.names ρc) (src : Src X W ρ iter (xs.map φ))
    (turn : ∀ X' W' acc, X'.B = X.B → X'.n = X.n → X'.κ = closable scope.names → Fine X' → AccAt X' W' acc → ∀ x ∈ xs, ∃ ρ' c, TgtC X' W' ρc t (φ x) ρ' ∧ TstAll X' W' ρ' ifs c ∧
      (c = true → NoOwn ρ' → InnerOk X' W' acc elt (⟨t, iter, ifs, 0⟩ :: rest) (.ListComp elt (⟨t, iter, ifs, 0⟩ :: rest) scope pos) 1 ρ' (out x)) ∧ (c = false → out x = []))
    (hz : (xs.flatMap out).length ≤ 1000000) (hp : Put ρ x (.val true (.list (xs.flatMap out))) ρ') (n : Blk X W ρ' sts N R)
    (hf : ∀ env x, foldedSetIterable iter env x = pure x := by intro _ _; rfl)
    (hgo : ∀ it v M A E Q (s : Shared), (∃ o vs, s.heap.get? it = some o ∧ o.data = .fields vs ∧ (o.cls = .type "list_iterator" ∨ o.cls = .type "range_iterator")) → Q () s → wpAny M A (letOwnedTupleGo t (.ref it) v) Q E s := by intro _ _ _ _ _ _ _ _ q; exact wpAny_pure q) :
    Blk X W ρ (.Assign [.Name x p] (.ListComp elt (⟨t, iter, ifs, 0⟩ :: rest) scope pos) spos :: sts) N R := by
  have sw : ∃ b, swapsWith (.ListComp elt (⟨t, iter, ifs, 0⟩ :: rest) scope pos) (some (.Name x p)) spos.line X.env = pure b := ⟨_, rfl⟩
  obtain ⟨b, hb⟩ := sw
  refine blk_cons fun P s ok => ?_
  cases b with
  | false =>
    refine wpAny_Assign_Name (wpAny_mono (ev_comp F nd hk hκ hloc lo src turn hz hf hgo s ok.ok) (fun v s₁ k => store_val F (ok.mono k.1) hp k.2.1 fun s' ok' _ => n P s' ok') fun _ _ x => x) hb
  | true =>
    rw [exec_Assign_Name_used _ _ _ _ hb]
    refine wpAny_bind (wpAny_standAt (wpAny_bind ?_))
    show wpAny _ _ (comprehension (.ListComp elt (⟨t, iter, ifs, 0⟩ :: rest) scope pos) scope X.env (firstIterPos (⟨t, iter, ifs, 0⟩ :: rest) pos) (newList []) false (eval iter X.env) (some (PySem.assign (.Name x p) X.env)) >>= fun _ => pure ()) _ _ s
    refine wpAny_bind (comp_gen F nd hk hκ hloc lo src turn hz hf hgo (use := some (PySem.assign (.Name x p) X.env)) ok.ok fun acc C s' hC hns k p => ?_)
    obtain ⟨m, hns⟩ := hns
    have hL : ∀ y e, (y, e) ∈ ρ → X.env.kindOf y = some .local → C ≠ X.env.locals := fun y e hm hky z => by
      obtain ⟨v, z', hg, _⟩ | ⟨⟨ov, h1, _⟩, _⟩ := ok.ok.ent _ hm
      · rw [hky] at hg; cases hg
      · rcases h1 with ⟨_, m', n', _⟩ | ⟨a, _⟩
        · obtain ⟨o, _, _, ho, _⟩ := n'
          rw [← z, hC] at ho; cases ho
        · have a' : X.env.kindOf y = some .cell ∨ X.env.kindOf y = some .free := a
          rw [hky] at a'; rcases a' with z | z <;> cases z
    obtain ⟨e₀, hm₀, _⟩ := hp.mem
    refine wpAny_assign_Name (store_ok2 F (ok.mono k) hp ⟨_, rfl, p.1⟩ (fun _ _ e => by cases e) fun s'' ok'' _ hn => ?_)
    have hns'' := hn C m hns (hL x e₀ hm₀)
    refine ⟨m, hns'', fun h' hsb => wpAny_pure (wpAny_pure (n P _ ?_))⟩
    have hC' : X.sE.heap.get? C = Option.none := ok.ok.ext.ext.fresh hC
    refine ⟨⟨⟨ok''.ok.ext.ext.sameBut hC' hsb, ok''.ok.ext.gens, ok''.ok.ext.os⟩, ok''.ok.nd, fun p hp' => ?_, ok''.ok.own, fun b hb => ?_⟩, ok''.prot.extBut hsb.extBut (notFixed_ns hns'') (.ns hns'')⟩
    · obtain g | ⟨⟨ov, h1, h2⟩, h3⟩ := ok''.ok.ent p hp'
      · exact .inl g
      · refine .inr ⟨⟨ov, ?_, h2.extBut hsb.extBut (.ns hns'')⟩, h3⟩
        rcases h1 with ⟨a, m', n', e⟩ | ⟨a, c, e, n'⟩
        · have hkey : p.1 ∈ ρ.map (·.1) := by rw [← hp.keys]; exact List.mem_map_of_mem hp'
          obtain ⟨⟨y, e'⟩, hm, hy⟩ := List.mem_map.mp hkey
          have hy' : y = p.1 := hy
          exact .inl ⟨a, m', n'.sameBut hsb (hL y e' hm (by rw [hy']; exact a)).symm, e⟩
        · exact .inr ⟨a, c, e, n'.sameBut hsb (ns_ne_cell hns'' n').symm⟩
    · obtain ⟨o, ho⟩ := ok''.ok.wal b hb
      obtain ⟨o', ho'⟩ := ok.ok.wal b hb
      exact ⟨o, hsb.extBut b o (fun z => by rw [z, hC] at ho'; cases ho') ho⟩

theorem kap {scope : Scope} (h : ((scope.names.filter fun p => p.2 == NameKind.free).all fun p => X.κ.contains p.1) = true) : ∀ x, (x, NameKind.free) ∈ scope.names → x ∈ X.κ := by
  intro x hx
  have := List.all_eq_true.mp h (x, .free) (List.mem_filter.mpr ⟨hx, rfl⟩)
  simpa using this
end
end Mine



namespace Mine
open PySem PyProof.Rows

section
variable {X : Cx} {W : List Addr} {ρ : List (Str × Ent)}

theorem reps_intsAre {h : Heap} {vs : List Value} {ns : List Int} (r : Reps W h vs (ns.map .int)) : IntsAre vs ns := by
  induction ns generalizing vs with
  | nil => cases r; exact .nil
  | cons n ns ih => cases r with | cons a b => cases a; exact .cons _ _ (ih b)
theorem intsAre_reps {h : Heap} {vs : List Value} {ns : List Int} (r : IntsAre vs ns) : Reps W h vs (ns.map .int) := by
  induction r with
  | nil => exact .nil
  | cons n t _ ih => exact .cons (.int _ _) ih

/-- [d] * n -/
theorem fold_rep (v : Value) (n : Nat) : List.foldl (fun (x1 x2 : Array Value) => x1 ++ x2) #[] (List.replicate n #[v]) = (List.replicate n v).toArray := by
  have key : ∀ (n : Nat) (acc : List Value), List.foldl (fun (x1 x2 : Array Value) => x1 ++ x2) acc.toArray (List.replicate n #[v]) = (acc ++ List.replicate n v).toArray := by
    intro n
    induction n with
    | zero => intro acc; simp
    | succ n ih =>
      intro acc
      rw [List.replicate_succ, List.foldl_cons]
      have : acc.toArray ++ #[v] = (acc ++ [v]).toArray := by simp
      rw [this, ih]
      simp [List.replicate_succ]
  have := key n []
  simpa using this
theorem reps_replicate {h : Heap} {v : Value} {d : D} (r : Rep W h v d) (n : Nat) : Reps W h (List.replicate n v) (List.replicate n d) := by
  induction n with
  | zero => exact .nil
  | succ n ih => exact .cons r ih
theorem ev_rep {l₁ l₂ : Lv} {e₁ e₂ : Expr} {d : D} {k : Int} {pos : Pos} (h₁ : Ev X W ρ l₁ e₁ (.list [d])) (h₂ : Ev X W ρ l₂ e₂ (.int k)) (h0 : -(2 ^ 62) ≤ k) (hz : k ≤ 1000000) : Ev X W ρ .f (.BinOp e₁ .Mult e₂ pos) (.list (List.replicate k.toNat d)) := fun s hs => by
  refine wpAny_BinOp (ev_two (f := fun a b => binaryOp .Mult a b) h₁ h₂ hs fun va vb s' kk ra rb => ?_)
  obtain ⟨l, vs, rfl, hl, r⟩ := ra
  obtain ⟨u, rfl⟩ := repT_int rb
  cases r with
  | cons rv rn =>
    cases rn
    rename_i v
    obtain ⟨n, ho⟩ := hl
    have e : ([v] : List Value).toArray = #[v] := rfl
    refine wpAny_binaryOp_repeat_ref (T := "list") (U := "int") (by decide) ⟨_, ho, rfl⟩ (fun s' => typeIs_int s' k u) noFill_list_mul F.fills_int_mul F.slot_int_rmul repeat_list F.slot_int_index.lookup
      (call_meets F.slot_int_rmul (typeIs_int s' k u) F.entry_int_rmul (F.args_int_rmul_2 _ _) (int___rmul___int_list k u l #[v] n)
        ⟨ho, rfl, ⟨_, ho, rfl⟩, call_meets F.slot_list_mul ⟨_, ho, rfl⟩ F.entry_list_mul (F.args_list_mul_2 _ _)
          (AutoListH.list___mul___list_int_3 l #[v] n k u (by simp [Builtin.List.listFitsIndex]; omega) (by simp; omega) (by simp [Builtin.List.listTooLong, sizeLine]; omega)) ⟨ho, ?_⟩⟩)
    have e2 : (if (#[v] : Array Value).isEmpty = true then 0 else k.toNat) = k.toNat := rfl
    rw [e2, fold_rep]
    exact new_list hs kk (reps_replicate rv _)

/-- comparisons -/
theorem cmp_neB {a b : Bool} : CmpV X W .NotEq (.bool a) (.bool b) (a != b) := by
  intro s va vb ρ F hs ra rb
  rw [repT_bool ra, repT_bool rb]
  exact ne_bool ⟨.refl .., rfl⟩
theorem cmp_eqB {a b : Bool} : CmpV X W .Eq (.bool a) (.bool b) (a == b) := by
  intro s va vb ρ F hs ra rb
  rw [repT_bool ra, repT_bool rb]
  exact eq_bool ⟨.refl .., rfl⟩
theorem cmp_eqL {as bs : List Int} : CmpV X W .Eq (.list (as.map .int)) (.list (bs.map .int)) (decide (as = bs)) := by
  intro s va vb ρ F hs ra rb
  obtain ⟨l, vs, rfl, hl, r₁⟩ := ra
  obtain ⟨b, ws, rfl, hb, r₂⟩ := rb
  exact ke_eq_ints hl.isList hb.isList (reps_intsAre r₁) (reps_intsAre r₂) (by have := F.uni; omega) ⟨.refl .., rfl⟩
theorem cmp_neL {as bs : List Int} : CmpV X W .NotEq (.list (as.map .int)) (.list (bs.map .int)) (!decide (as = bs)) := by
  intro s va vb ρ F hs ra rb
  obtain ⟨l, vs, rfl, hl, r₁⟩ := ra
  obtain ⟨b, ws, rfl, hb, r₂⟩ := rb
  exact ke_ne_ints hl.isList hb.isList (reps_intsAre r₁) (reps_intsAre r₂) (by have := F.uni; omega) ⟨.refl .., rfl⟩
theorem cmp_isNI {b : Bool} : CmpV X W .Is (.bool b) (.val .notImplemented) false := by
  intro s va vb ρ F hs ra rb
  rw [repT_bool ra]
  have r : Rep W s.heap vb (.val .notImplemented) := rb
  cases r
  exact wpAny_is_other (by cases b <;> rfl) (by intro e; cases e) ⟨.refl .., rfl⟩

/-- and, or of bools as values -/
theorem ev_and2 {l l' : Lv} {e₁ e₂ : Expr} {a b : Bool} {pos : Pos} (h₁ : Ev X W ρ l e₁ (.bool a)) (h₂ : a = true → Ev X W ρ l' e₂ (.bool b)) : Ev X W ρ .f (.BoolOp .And [e₁, e₂] pos) (.bool (a && b)) := fun s hs => by
  refine wpAny_And2 (wpAny_mono (h₁ s hs) (fun v s₁ k => ?_) fun _ _ x => x)
  rw [repT_bool k.2.toT]
  refine wpAny_truthy_bool ?_
  cases a with
  | false => exact ⟨k.1, .bool _, fun _ e => by cases e⟩
  | true => exact wpAny_mono (h₂ rfl s₁ (hs.mono k.1)) (fun v s₂ k' => ⟨k.1.trans k'.1, by rw [repT_bool k'.2.toT]; exact .bool _, fun _ e => by rw [repT_bool k'.2.toT] at e; cases e⟩) fun _ _ x => x
theorem ev_or2 {l l' : Lv} {e₁ e₂ : Expr} {a b : Bool} {pos : Pos} (h₁ : Ev X W ρ l e₁ (.bool a)) (h₂ : a = false → Ev X W ρ l' e₂ (.bool b)) : Ev X W ρ .f (.BoolOp .Or [e₁, e₂] pos) (.bool (a || b)) := fun s hs => by
  refine wpAny_Or2 (wpAny_mono (h₁ s hs) (fun v s₁ k => ?_) fun _ _ x => x)
  rw [repT_bool k.2.toT]
  refine wpAny_truthy_bool ?_
  cases a with
  | true => exact ⟨k.1, .bool _, fun _ e => by cases e⟩
  | false => exact wpAny_mono (h₂ rfl s₁ (hs.mono k.1)) (fun v s₂ k' => ⟨k.1.trans k'.1, by rw [repT_bool k'.2.toT]; exact .bool _, fun _ e => by rw [repT_bool k'.2.toT] at e; cases e⟩) fun _ _ x => x

/-- methods -/
def GetM (X : Cx) (W : List Addr) (d₀ : D) (name : Str) (f : Value) (bound : Bool) : Prop :=
  ∀ s ρ ov pl, Fine X → Ok X W ρ s → RepT W s.heap ov d₀ → wpAny X.M X.A (getMethod ov name pl) (fun fx s' => SExt [] s s' ∧ fx = (f, if bound then [ov] else [])) NoE s
theorem callWith_F {f : Value} {first : List Value} {args : List (Bool × Sem Value)} {pos : Pos} {s : Shared} {Q : Value → Shared → Prop} {V : List Value → Heap → Prop} (F : Fine X) (hs : Ok X W ρ s)
    (ha : wpAny X.M X.A (spliced args) (fun vs s' => SExt [] s s' ∧ V vs s'.heap) NoE s) (hk : KeepOk X W f)
    (hc : ∀ vs s₁, SExt [] s s₁ → V vs s₁.heap → wpAny X.M X.A (call f (first ++ vs) []) Q NoE s₁)
    (hst : args.any (·.1) = false) : wpAny X.M X.A (callWith pos f first args []) Q NoE s := by
  unfold callWith
  refine wpAny_bind (wpAny_holding (evalArgs_noStar hst (wpAny_mono ha (fun vs s₁ h₁ => wpAny_bind (wpAny_standAt ?_)) fun _ _ x => x)))
  have hs₁ := hs.mono h₁.1
  have main : wpAny X.M X.A (call f (first ++ vs) []) Q NoE s₁ := hc vs s₁ h₁.1 h₁.2
  have tail : ∀ {t : Sem Value}, wpAny X.M X.A t Q NoE s₁ → wpAny X.M X.A (t >>= fun r => holding [r] point >>= fun _ => pure r) Q NoE s₁ :=
    fun ht => wpAny_bind (wpAny_mono ht (fun r s₂ hr => wpAny_bind (wpAny_holding (wpAny_point (wpAny_pure hr)))) fun _ _ x => x)
  simp only [hst, List.any_nil, Bool.or_false]
  refine wpAny_bind (wpAny_mono (hk s₁ ρ F hs₁) (fun k s₂ e => ?_) fun _ _ x => x)
  subst e
  cases k with
  | frame =>
    dsimp only
    split
    · exact tail main
    · exact tail (by unfold callMarked; exact Calls.wpAny_keep main)
  | boundFrame =>
    dsimp only
    split
    · exact tail main
    · exact tail (by unfold callMarked; exact Calls.wpAny_keep main)
  | machine => exact tail main
  | caller => exact tail (wpAny_operateT main)

/-- o.name(args), the object handed as first -/
theorem ev_meth {lo l : Lv} {o : Expr} {name : Str} {apos pos : Pos} {args : List Expr} {d₀ d : D} {ds : List D} {f : Value} {b : Bool} {pl : Env → Sem Bool} (F : Fine X) (ho : Ev X W ρ lo o d₀) (hm : GetM X W d₀ name f b) (ha : EvTs X W ρ args ds) (hc : CallV X W f (if b then d₀ :: ds else ds) l d) (hk : KeepOk X W f)
    (he : ∀ env, eval (.Call (.Attribute o name apos) args [] pos) env = (do
      let ov ← eval o env
      standAt apos.atName
      let (f, first) ← holding [ov] (getMethod ov name (pl env))
      callWith pos f first (backTo pos (starEach args env)) (backToKw pos (keywordEach [] env))) := by intro _; rfl)
    (hst : ∀ env, (backTo pos (starEach args env)).any (·.1) = false := by intro _; rfl) : Ev X W ρ l (.Call (.Attribute o name apos) args [] pos) d := fun s hs => by
  rw [he]
  refine wpAny_bind (wpAny_mono (ho s hs) (fun ov s₁ k₁ => wpAny_bind (wpAny_standAt (wpAny_bind (wpAny_holding (wpAny_mono (hm s₁ ρ ov _ F (hs.mono k₁.1) k₁.2.toT) (fun fx s₂ k₂ => ?_) fun _ _ x => x))))) fun _ _ x => x)
  obtain ⟨k₂, rfl⟩ := k₂
  have kk := k₁.1.trans k₂
  show wpAny X.M X.A (callWith pos f (if b = true then [ov] else []) (backTo pos (starEach args X.env)) []) _ _ s₂
  refine callWith_F (V := fun vs h => RepTs W h vs ds) F (hs.mono kk) (ha pos s₂ (hs.mono kk)) hk (fun vs s₃ k₃ hv => ?_) (hst _)
  have hs₃ := hs.mono (kk.trans k₃)
  have r₀ : RepT W s₃.heap ov d₀ := (k₁.2.toT.ext k₂.ext).ext k₃.ext
  have hargs : RepTs W s₃.heap ((if b = true then [ov] else []) ++ vs) (if b then d₀ :: ds else ds) := by
    cases b with
    | true => exact .cons r₀ hv
    | false => exact hv
  exact wpAny_mono (hc s₃ ρ _ F hs₃ hargs) (fun v s' q => ⟨(kk.trans k₃).trans q.1, (q.2.back k₃).back kk⟩) fun _ _ x => x

theorem getM_type {T : String} {name : Str} {v : Value} (ht : typeOf (.type T) = pure (.type "type")) (hs : Manifest.isStub T = false) (e : findCls [] (.type T) (.type "type") name = some (.val v)) (hh : handedIn v = true) : GetM X W (.val (.type T)) name v false := fun s ρ ov pl F ok r => by
  have r' : Rep W s.heap ov (.val (.type T)) := r
  cases r'
  have X0 : Frag.In [] s.heap := by
    intro a o z; cases z
  have hstub : opaqueClassAbove (.type T) = pure Option.none := by unfold opaqueClassAbove; dsimp only; rw [hs]; rfl
  have L0 : Looks X.M s.heap (typeOf (.type T)) (.type "type") := Looks.of_pure ht
  have hg : findIn [] (.type "type") "__getattribute__" = some (some (.builtin "type.__getattribute__")) := type_tga
  unfold getMethod specialOf
  refine wpAny_bind (wpAny_bind (L0.here ((looks_findIn X0 hg).here ?_)))
  dsimp only
  rw [if_pos canon_tga]
  refine wpAny_bind (wpAny_mono (Q := fun w s' => w = v ∧ SExt [] s s') (E := NoE) ?_ (fun _ _ z => wpAny_pure ⟨z.2, by rw [z.1]; rfl⟩) fun _ _ z => z)
  have LO : Looks X.M s.heap (opaqueClassAbove (.type T)) Option.none := Looks.of_pure hstub
  refine cls_open X0 LO L0 hg (looks_hook X0 (r := Option.none) (by rfl)) (by show subIn [] _ _ = _; rfl) e
    (wpAny_pure (by show wpAny _ _ (handedOut v) _ _ _; rw [handedOut_of hh]; exact wpAny_pure ⟨rfl, sext_toks _ _⟩))
theorem callV_typeInt {a : Int} : CallV X W (.type "type") [.int a] .s (.val (.type "int")) := fun s ρ vs F hs hr => by
  obtain ⟨v, rfl, r⟩ := repTs_one hr
  obtain ⟨t, rfl⟩ := repT_int r
  obtain ⟨hh, g, d, tk, os⟩ := s
  refine wpAny_call (codeAny_of_tree ?_)
  show wpAny _ _ (callAny (.type "type") ⟨[.int a t], []⟩) _ _ _
  simp only [callAny]
  refine wpAny_pure ⟨Code.quiet_builtin _ (by decide +kernel), codeAny_builtin entry_type_call ?_⟩
  unfold Builtin.«type.__call__»
  dsimp only
  unfold shownTypeOf
  repeat wp_step
  exact ⟨.refl .., .val _⟩
theorem getM_ge : GetM X W (.val (.type "int")) (Str.ofString "__ge__") (.builtin "int.__ge__") false := getM_type (by rfl) (by decide +kernel) (by kernel_rfl) (by rfl)
theorem getM_gt : GetM X W (.val (.type "int")) (Str.ofString "__gt__") (.builtin "int.__gt__") false := getM_type (by rfl) (by decide +kernel) (by kernel_rfl) (by rfl)
theorem callV_intGe {a b : Int} : CallV X W (.builtin "int.__ge__") [.int a, .int b] .f (.bool (decide (b ≤ a))) := fun s ρ vs F hs hr => by
  obtain ⟨v, v', rfl, r, r'⟩ := repTs_two hr
  obtain ⟨t, rfl⟩ := repT_int r
  obtain ⟨u, rfl⟩ := repT_int r'
  exact wpAny_call_entry slot_int_ge (typeIs_int s a t) entry_int_ge (show wpAny _ _ (ret (.bool (decide (a ≥ b)))) _ _ s from wpAny_pure ⟨_, rfl, .refl .., .bool _, fun _ e => by cases e⟩) (args_int_ge _ _)
end
end Mine



namespace Mine
open PySem PyProof.Rows

def stAt (p : Program) (i : Nat) : Stmt := p.main.body.getD i (.Pass ⟨0, 0, 0, 0⟩)
def fName : Stmt → Str
  | .FunctionDef n _ _ _ _ _ _ _ _ _ => n
  | _ => Str.empty
def fBody : Stmt → List Stmt
  | .FunctionDef _ _ b _ _ _ _ _ _ _ => b
  | _ => []
def fArgs : Stmt → Arguments
  | .FunctionDef _ a _ _ _ _ _ _ _ _ => a
  | _ => ⟨[], [], Option.none, [], [], Option.none, []⟩
def fScope : Stmt → Scope
  | .FunctionDef _ _ _ _ _ _ s _ _ _ => s
  | _ => ⟨.function, [], false, false, []⟩
structure IsDef (fd : FuncData) (st : Stmt) : Prop where
  body : fd.body = .stmts (fBody st)
  params : fd.params = fArgs st
  scope : fd.scope = fScope st
  defaults : fd.defaults = .none
  closure : fd.closure = []
/-- a def of the text, where it stands -/
structure DefAt (B : Base) (a : Addr) (st : Stmt) : Prop where
  fn : ∃ fd, FnB B a fd ∧ IsDef fd st
theorem DefAt.keep {X : Cx} {W : List Addr} {a : Addr} {st : Stmt} (d : DefAt X.B a st) : KeepOk X W (.ref a) := by
  obtain ⟨fd, fb, _⟩ := d.fn
  exact keepOk_fn fb
theorem callV_def {X : Cx} {W : List Addr} {a : Addr} {st : Stmt} {as : List Arg} {ds : List D} {l : Lv} {d : D} {ρ₀ ρ₁ : List (Str × Ent)} {n : Nat} (hn : n + 1 ≤ X.n) (dd : DefAt X.B a st)
    (hp : fArgs st = ⟨[], as, Option.none, [], [], Option.none, []⟩) (nd : (as.map (·.arg)).Nodup) (lo : LayOf X.B [] (fScope st).names ρ₀) (pu : Puts ρ₀ (as.map (·.arg)) ds ρ₁)
    (run : ∀ X', X'.B = X.B → X'.n = n → X'.T = [] → X'.κ = closable (fScope st).names → Fine X' → (∀ a ∈ W, ∃ o, X'.sE.heap.get? a = some o) → Blk X' W ρ₁ (fBody st) (fun _ _ => False) (Ret X' W l d)) : CallV X W (.ref a) ds l d := by
  obtain ⟨fd, fb, hd⟩ := dd.fn
  refine callV_fn hn fb hd.body (hd.params.trans hp) hd.defaults hd.closure nd (by rw [hd.scope]; exact lo) pu fun X' s' hB hn' hT hκ F wal ok => ?_
  refine wpAny_mono (run X' hB hn' hT (by rw [hκ, hd.scope]) F wal [] s' ok) (fun f s'' h => ?_) fun _ _ h => h
  cases f with
  | next => exact h.elim
  | ret v =>
    have h' : Ret X' W l d v s'' := h
    refine ⟨v, rfl, ?_, h'.2⟩
    rw [← hT]; exact h'.1
  | _ => exact h.elim

/-- entries forgotten -/
inductive Fgt : List (Str × Ent) → List (Str × Ent) → Prop
  | nil : Fgt [] []
  | un {x : Str} {e : Ent} {ρ ρ' : List (Str × Ent)} : e.rw = true → Fgt ρ ρ' → Fgt ((x, e) :: ρ) ((x, .un) :: ρ')
  | eq {x : Str} {e e' : Ent} {ρ ρ' : List (Str × Ent)} : e = e' → Fgt ρ ρ' → Fgt ((x, e) :: ρ) ((x, e') :: ρ')
theorem Fgt.keys {ρ ρ' : List (Str × Ent)} (h : Fgt ρ ρ') : ρ'.map (·.1) = ρ.map (·.1) := by
  induction h with
  | nil => rfl
  | un _ _ ih => rw [List.map_cons, List.map_cons, ih]
  | eq _ _ ih => rw [List.map_cons, List.map_cons, ih]
theorem Fgt.back {ρ ρ' : List (Str × Ent)} (h : Fgt ρ ρ') : ∀ p ∈ ρ', p ∈ ρ ∨ (p.2 = .un ∧ ∃ e, (p.1, e) ∈ ρ ∧ e.rw = true) := by
  induction h with
  | nil => intro p hp; cases hp
  | un hr _ ih =>
    intro p hp
    rcases List.mem_cons.mp hp with rfl | hp
    · exact .inr ⟨rfl, _, .head _, hr⟩
    · rcases ih p hp with h | ⟨h1, e, h2, h3⟩
      · exact .inl (.tail _ h)
      · exact .inr ⟨h1, e, .tail _ h2, h3⟩
  | eq he _ ih =>
    intro p hp
    rcases List.mem_cons.mp hp with rfl | hp
    · exact .inl (he ▸ .head _)
    · rcases ih p hp with h | ⟨h1, e, h2, h3⟩
      · exact .inl (.tail _ h)
      · exact .inr ⟨h1, e, .tail _ h2, h3⟩
theorem Ok.fgt {X : Cx} {W : List Addr} {ρ ρ' : List (Str × Ent)} {s : Shared} (x : Ok X W ρ s) (h : Fgt ρ ρ') : Ok X W ρ' s := x.forget h.back (by rw [h.keys]; exact x.nd)
theorem OkP.fgt {X : Cx} {W : List Addr} {P : List Pr} {ρ ρ' : List (Str × Ent)} {s : Shared} (x : OkP X W P ρ s) (h : Fgt ρ ρ') : OkP X W P ρ' s := ⟨x.ok.fgt h, x.prot⟩
theorem blk_fgt {X : Cx} {W : List Addr} {ρ ρ' : List (Str × Ent)} {R : Rtn} (h : Fgt ρ ρ') : Blk X W ρ [] (fun P s => OkP X W P ρ' s) R := blk_nil fun P s ok => ok.fgt h
theorem blk_then {X : Cx} {W : List Addr} {ρ ρ' : List (Str × Ent)} {rest : List Stmt} {N : Nrm} {R : Rtn} (h : Fgt ρ ρ') (n : Blk X W ρ' rest N R) : Blk X W ρ [] (Then X rest N R) R := blk_nil fun P s ok => n P s (ok.fgt h)

theorem for_range {X : Cx} {W : List Addr} {ρ : List (Str × Ent)} {N : Nrm} {R : Rtn} {t iter : Expr} {body rest : List Stmt} {pos : Pos} {lo hi : Int} (F : Fine X) (σ : Nat → List (Str × Ent)) (h : Src X W ρ iter (rangeD lo hi)) (h0 : Fgt ρ (σ 0))
    (turn : ∀ i : Nat, i < (hi - lo).toNat → ∃ ρ', Tgt X W (σ i) t (.int (lo + i)) ρ' ∧ Blk X W ρ' body (fun P s => OkP X W P (σ (i + 1)) s) R) (n : Blk X W (σ (hi - lo).toNat) rest N R)
    (hf : ∀ env x, foldedSetIterable iter env x = pure x := by intro _ _; rfl) (hg : ∀ it v M A E Q (s : Shared), (∃ o vs, s.heap.get? it = some o ∧ o.data = .fields vs ∧ (o.cls = .type "list_iterator" ∨ o.cls = .type "range_iterator")) → Q () s → wpAny M A (letOwnedTupleGo t (.ref it) v) Q E s := by intro _ _ _ _ _ _ _ _ q; exact wpAny_pure q) :
    Blk X W ρ (.For t iter body [] pos :: rest) N R := by
  refine blk_for F σ h (fun s ok => ok.fgt h0) (fun i d hd => ?_) ?_ hf hg
  · have hi : i < (hi - lo).toNat := by
      have := (List.getElem?_eq_some_iff.mp hd).1
      simpa [rangeD] using this
    have e : d = .int (lo + i) := by
      rw [rangeD, List.getElem?_map, List.getElem?_range hi] at hd
      cases hd; rfl
    rw [e]; exact turn i hi
  · have e : (rangeD lo hi).length = (hi - lo).toNat := by simp [rangeD]
    rw [e]; exact n
end Mine



namespace Mine
open PySem PyProof.Rows

/-- sorting by insertion -/
def insI (x : Int) : List Int → List Int
  | [] => [x]
  | y :: ys => if x ≤ y then x :: y :: ys else y :: insI x ys
def isort : List Int → List Int
  | [] => []
  | x :: xs => insI x (isort xs)
theorem insI_perm (x : Int) : ∀ ys, (insI x ys).Perm (x :: ys)
  | [] => .refl _
  | y :: ys => by
    unfold insI
    split
    · exact .refl _
    · exact ((insI_perm x ys).cons y).trans (.swap x y ys)
theorem isort_perm : ∀ xs, (isort xs).Perm xs
  | [] => .refl _
  | x :: xs => (insI_perm x _).trans ((isort_perm xs).cons x)
theorem insI_sorted (x : Int) : ∀ ys, ys.Pairwise (· ≤ ·) → (insI x ys).Pairwise (· ≤ ·)
  | [], _ => by simp [insI]
  | y :: ys, h => by
    unfold insI
    rw [List.pairwise_cons] at h
    split
    · rename_i hxy
      refine List.pairwise_cons.mpr ⟨fun z hz => ?_, List.pairwise_cons.mpr h⟩
      rcases List.mem_cons.mp hz with rfl | hz
      · exact hxy
      · exact Int.le_trans hxy (h.1 z hz)
    · rename_i hxy
      refine List.pairwise_cons.mpr ⟨fun z hz => ?_, insI_sorted x ys h.2⟩
      rcases List.mem_cons.mp ((insI_perm x ys).mem_iff.mp hz) with rfl | hz
      · omega
      · exact h.1 z hz
theorem isort_sorted : ∀ xs, (isort xs).Pairwise (· ≤ ·)
  | [] => .nil
  | x :: xs => insI_sorted x _ (isort_sorted xs)
theorem sorted_unique : ∀ {xs ys : List Int}, xs.Perm ys → xs.Pairwise (· ≤ ·) → ys.Pairwise (· ≤ ·) → xs = ys
  | [], ys, p, _, _ => by rw [List.nil_perm.mp p]
  | x :: xs, [], p, _, _ => by have := p.length_eq; simp at this
  | x :: xs, y :: ys, p, hx, hy => by
    rw [List.pairwise_cons] at hx hy
    have h1 : x ∈ y :: ys := p.mem_iff.mp (.head _)
    have h2 : y ∈ x :: xs := p.mem_iff.mpr (.head _)
    have e : x = y := by
      rcases List.mem_cons.mp h1 with e | h1
      · exact e
      · rcases List.mem_cons.mp h2 with e | h2
        · exact e.symm
        · have a := hx.1 y h2
          have b := hy.1 x h1
          omega
    subst e
    rw [sorted_unique (List.Perm.cons_inv p) hx.2 hy.2]
theorem sorted_is {xs ys : List Int} (p : xs.Perm ys) (h : xs.Pairwise (· ≤ ·)) : xs = isort ys :=
  sorted_unique (p.trans (isort_perm ys).symm) h (isort_sorted ys)

section
variable {X : Cx} {W : List Addr} {ρ : List (Str × Ent)}
theorem callV_sorted {ns : List Int} (hz : ns.length < 64) : CallV X W (.builtin "sorted") [.list (ns.map .int)] .f (.list ((isort ns).map .int)) := fun s ρ vs F hs hr => by
  obtain ⟨v, rfl, a, us, rfl, hl, r⟩ := repTs_one hr
  have hn := r.length
  rw [List.length_map] at hn
  refine sorted_ints hl.isList (reps_intsAre r) (by omega) fun out ns' a1 a2 a3 => ?_
  obtain ⟨e, he⟩ := sortedAll_at s.heap us out
  have hk : ∀ b o, s.heap.get? b = some o → (sortedAll s.heap us out).get? b = some o := fun _ _ => sortedAll_old
  have hfr : s.heap.get? (s.heap.objs.size + 1) = Option.none := by
    cases q : s.heap.get? (s.heap.objs.size + 1) with
    | none => rfl
    | some o => exact absurd (Heap.lt_size q) (Nat.not_lt.mpr (Nat.le_succ _))
  have e2 : ns' = isort ns := sorted_is a2 a3
  subst e2
  refine ⟨sext_keep _ _ s.toks hk, .list ⟨e, ?_⟩ (fun z => ?_) (intsAre_reps a1), fun b z => by cases z; exact hfr⟩
  · rw [he]
  · obtain ⟨o, ho⟩ := hs.wal _ z
    rw [hfr] at ho; cases ho
/-- methods of lists -/
theorem getM_list {ds : List D} {name : Str} {id : String} (slot : Slot "list" name id) (hty : typeOf (.builtin id) = pure (.type "method_descriptor")) : GetM X W (.list ds) name (.builtin id) true := fun s ρ ov pl F ok r => by
  obtain ⟨a, vs, rfl, ⟨n, ho⟩, _⟩ := r
  exact getMethod_builtin (T := "list") ⟨_, ho, rfl⟩ PySem.F.plainAttrs_list slot hty (fun b e => by cases e; exact ⟨_, ho, rfl⟩) ⟨.refl .., rfl⟩
theorem callV_count {ns : List Int} {k : Int} : CallV X W (.builtin "list.count") [.list (ns.map .int), .int k] .f (.int (ns.count k : Nat)) := fun s ρ vs F hs hr => by
  obtain ⟨v, v', rfl, ⟨a, us, rfl, hl, r⟩, r'⟩ := repTs_two hr
  obtain ⟨t, rfl⟩ := repT_int r'
  exact count_list_ints hl.isList (reps_intsAre r) ⟨sext_toks _ _, .int _ _, fun _ e => by cases e⟩

abbrev natD (x : Nat) : D := .int (x : Int)
theorem rangeD_nat (m : Nat) : rangeD 0 (m : Int) = (List.range m).map natD := by
  unfold rangeD
  have : ((m : Int) - 0).toNat = m := by omega
  rw [this]
  apply List.map_congr_left
  intro i _
  simp
theorem src_rangeN {p pos : Pos} {l : Lv} {e : Expr} {n : Int} {m : Nat} (F : Fine X) (hm : ((Str.ofString "range" : Str), Ent.gl (.type "range")) ∈ ρ) (h : Ev X W ρ l e (.int n)) (hn : n = (m : Int)) (hz : m ≤ 1000000)
    (hse : ∀ env, starEach [e] env = [(false, eval e env)] := by intro _; rfl) : Src X W ρ (.Call (.Name (Str.ofString "range") p) [e] [] pos) ((List.range m).map natD) := by
  rw [← rangeD_nat]
  subst hn
  exact src_range1 F hm h (by omega) (by omega) hse
theorem for_rangeN {N : Nrm} {R : Rtn} {t : Expr} {body rest : List Stmt} {p pos pos' : Pos} {l : Lv} {e : Expr} {n : Int} {m : Nat} (F : Fine X) (σ : Nat → List (Str × Ent)) (hm : ((Str.ofString "range" : Str), Ent.gl (.type "range")) ∈ ρ) (h : Ev X W ρ l e (.int n)) (hn : n = (m : Int)) (hz : m ≤ 1000000) (h0 : Fgt ρ (σ 0))
    (turn : ∀ i : Nat, i < m → ∃ ρ', Tgt X W (σ i) t (natD i) ρ' ∧ Blk X W ρ' body (fun P s => OkP X W P (σ (i + 1)) s) R) (nx : Blk X W (σ m) rest N R)
    (hse : ∀ env, starEach [e] env = [(false, eval e env)] := by intro _; rfl)
    (hg : ∀ it v M A E Q (s : Shared), (∃ o vs, s.heap.get? it = some o ∧ o.data = .fields vs ∧ (o.cls = .type "list_iterator" ∨ o.cls = .type "range_iterator")) → Q () s → wpAny M A (letOwnedTupleGo t (.ref it) v) Q E s := by intro _ _ _ _ _ _ _ _ q; exact wpAny_pure q) :
    Blk X W ρ (.For t (.Call (.Name (Str.ofString "range") p) [e] [] pos) body [] pos' :: rest) N R := by
  refine blk_for F σ (src_rangeN F hm h hn hz hse) (fun s ok => ok.fgt h0) (fun i d hd => ?_) ?_ (by intro _ _; rfl) hg
  · have hi : i < m := by
      have := (List.getElem?_eq_some_iff.mp hd).1
      simpa using this
    have e : d = natD i := by
      rw [List.getElem?_map, List.getElem?_range hi] at hd
      cases hd; rfl
    rw [e]; exact turn i hi
  · have e : ((List.range m).map natD).length = m := by simp
    rw [e]; exact nx
/-- a loop over a list's items -/
theorem for_list {α : Type} {xs : List α} {φ : α → D} {N : Nrm} {R : Rtn} {t iter : Expr} {body rest : List Stmt} {pos : Pos} (F : Fine X) (σ : Nat → List (Str × Ent)) (h : Src X W ρ iter (xs.map φ)) (h0 : Fgt ρ (σ 0))
    (turn : ∀ (i : Nat) (hi : i < xs.length), ∃ ρ', Tgt X W (σ i) t (φ xs[i]) ρ' ∧ Blk X W ρ' body (fun P s => OkP X W P (σ (i + 1)) s) R) (nx : Blk X W (σ xs.length) rest N R)
    (hf : ∀ env x, foldedSetIterable iter env x = pure x := by intro _ _; rfl) (hg : ∀ it v M A E Q (s : Shared), (∃ o vs, s.heap.get? it = some o ∧ o.data = .fields vs ∧ (o.cls = .type "list_iterator" ∨ o.cls = .type "range_iterator")) → Q () s → wpAny M A (letOwnedTupleGo t (.ref it) v) Q E s := by intro _ _ _ _ _ _ _ _ q; exact wpAny_pure q) :
    Blk X W ρ (.For t iter body [] pos :: rest) N R := by
  refine blk_for F σ h (fun s ok => ok.fgt h0) (fun i d hd => ?_) ?_ hf hg
  · have hi : i < xs.length := by
      have := (List.getElem?_eq_some_iff.mp hd).1
      simpa using this
    have e : d = φ xs[i] := by
      rw [List.getElem?_map, List.getElem?_eq_getElem hi] at hd
      cases hd; rfl
    rw [e]; exact turn i hi
  · have e : (xs.map φ).length = xs.length := by simp
    rw [e]; exact nx
/-- [v for x in xs], [v for x in xs if c] as lists -/
theorem flatMap_one {α β : Type} (f : α → β) (xs : List α) : xs.flatMap (fun x => [f x]) = xs.map f := by
  induction xs with
  | nil => rfl
  | cons x xs ih => rw [List.flatMap_cons, ih]; rfl
theorem flatMap_if {α β : Type} (c : α → Bool) (f : α → β) (xs : List α) : xs.flatMap (fun x => if c x then [f x] else []) = (xs.filter c).map f := by
  induction xs with
  | nil => rfl
  | cons x xs ih =>
    rw [List.flatMap_cons, ih, List.filter_cons]
    cases c x <;> simp
theorem itemAt_nat {α β : Type} (f : α → β) (xs : List α) (i : Nat) (h : i < xs.length) : itemAt (xs.map f) (i : Int) = some (f xs[i]) := by
  unfold itemAt
  rw [if_pos (by omega), List.getElem?_map, Int.toNat_natCast, List.getElem?_eq_getElem h]; rfl

theorem mulOk_right {a b : Int} (h1 : -(2 ^ 63) < b) (h2 : b < 2 ^ 63) : IntMulOk a b := .of_right (intBits_le_64 (by omega) (by omega))
theorem mulOk_left {a b : Int} (h1 : -(2 ^ 63) < a) (h2 : a < 2 ^ 63) : IntMulOk a b := .of_left (intBits_le_64 (by omega) (by omega))
theorem getM_count {ds : List D} : GetM X W (.list ds) (Str.ofString "count") (.builtin "list.count") true := getM_list PySem.F.slot_list_count PySem.F.type_list_count
theorem Tst.cast {e : Expr} {c c' : Bool} (h : Tst X W ρ e c) (z : c = c') : Tst X W ρ e c' := z ▸ h
end
end Mine



namespace Mine
open PySem PyProof.Rows
section
variable {X : Cx} {W : List Addr} {ρ : List (Str × Ent)}
theorem callV_intGt {a b : Int} : CallV X W (.builtin "int.__gt__") [.int a, .int b] .f (.bool (decide (b < a))) := fun s ρ vs F hs hr => by
  obtain ⟨v, v', rfl, r, r'⟩ := repTs_two hr
  obtain ⟨t, rfl⟩ := repT_int r
  obtain ⟨u, rfl⟩ := repT_int r'
  exact wpAny_call_entry PySem.SiftDown.slot_int_gt (typeIs_int s a t) PySem.SiftDown.entry_int_gt (show wpAny _ _ (ret (.bool (decide (a > b)))) _ _ s from wpAny_pure ⟨_, rfl, .refl .., .bool _, fun _ e => by cases e⟩) (PySem.SiftDown.args_int_gt _ _)
end
end Mine



namespace Mine
open PySem PyProof.Rows

local macro_rules | `(tactic| walk_at "m_mem") => `(tactic| first | with_reducible exact List.mem_cons_self | (with_reducible apply List.mem_cons_of_mem; walk_at "m_mem"))
local macro_rules | `(tactic| walk_at "m_put") => `(tactic| first | with_reducible exact Put.here rfl | (with_reducible apply Put.there; walk_at "m_put"))
local macro_rules | `(tactic| walk_at "m_putU") => `(tactic| first | with_reducible exact PutU.here | (with_reducible apply PutU.there; walk_at "m_putU"))

local macro_rules | `(tactic| walk_at "m_putF") => `(tactic| first | with_reducible exact PutF.here rfl | (with_reducible apply PutF.there; walk_at "m_putF"))

local macro_rules | `(tactic| walk_at "m_fgt") => `(tactic| first | exact Fgt.nil | (refine Fgt.un rfl ?_; walk_at "m_fgt") | (refine Fgt.eq rfl ?_; walk_at "m_fgt"))

abbrev pg := PySem.Challenge.pw_dm0116_04
structure Lw (B : Base) (aG aH aO : Addr) : Prop where
  len : GlobIs B (Str.ofString "len") (.builtin "len")
  min : GlobIs B (Str.ofString "min") (.builtin "min")
  range : GlobIs B (Str.ofString "range") (.type "range")
  type : GlobIs B (Str.ofString "type") (.type "type")
  ni : GlobIs B (Str.ofString "NotImplemented") .notImplemented
  gG : GlobIs B (Str.ofString "_ge_from_gt") (.ref aG)
  gH : GlobIs B (Str.ofString "_law_heaps") (.ref aH)
  gO : GlobIs B (Str.ofString "_law_orders") (.ref aO)
  dG : DefAt B aG (stAt pg 1)
  dH : DefAt B aH (stAt pg 3)
  dO : DefAt B aO (stAt pg 4)

def heapsTo (m : Nat) (ns : List Int) : Nat → List Int
  | 0 => List.replicate (Nat.min ns.length m) 0
  | i + 1 => (heapsTo m ns i).set (i % m) ((heapsTo m ns i).getD (i % m) 0 + ns.getD i 0)
theorem heapsTo_len (m : Nat) (ns : List Int) : ∀ i, (heapsTo m ns i).length = Nat.min ns.length m
  | 0 => by simp [heapsTo]
  | i + 1 => by rw [heapsTo, List.length_set, heapsTo_len m ns i]

set_option maxHeartbeats 1000000 in
theorem heaps_spec {X : Cx} {W : List Addr} {aG aH aO : Addr} (G : Lw X.B aG aH aO) (hn : 1 ≤ X.n) (ns : List Int) (hl : ns.length ≤ 63) : CallV X W (.ref aH) [.list (ns.map .int)] .f (.list ((heapsTo 5 ns ns.length).map .int)) := by
  refine callV_def (n := 0) hn G.dH rfl (by decide +kernel) (.loc (.loc (.loc (.glob G.min (.glob G.len (.glob G.range .nil)))))) (.cons (e := .tmp true _) (by walk_at "m_put") rfl .nil) ?_
  intro X' hB hn' hT hκ F wal
  have hlen : (ns.map D.int).length ≤ 1000000 := by rw [List.length_map]; omega
  refine assign_own (ns := heapsTo 5 ns 0) F ?_ (by walk_at "m_putF") fun h => ?_
  · refine Ev.cast (ev_rep (ev_list (evs_cons (Ev.flat ev_int) evs_nil)) (ev_call F (by walk_at "m_mem") (evTs_cons (ev_call F (by walk_at "m_mem") (evTs_cons (ev_tmp F (by walk_at "m_mem")) evTs_nil) (callV_len hlen) keepOk_builtin) (evTs_cons ev_int evTs_nil)) callV_min keepOk_builtin) ?_ ?_) ?_
    · rw [List.length_map]; split <;> omega
    · rw [List.length_map]; split <;> omega
    · rw [List.length_map]
      show D.list _ = D.list _
      rw [heapsTo, List.map_replicate]
      congr 2
      have : Nat.min ns.length 5 = min ns.length 5 := rfl
      rw [this]
      split <;> omega
  · refine for_range F (fun i => [(Str.ofString "script", Ent.tmp true (.list (ns.map .int))), (Str.ofString "heaps", Ent.own h (heapsTo 5 ns i)), (Str.ofString "place", Ent.un), (Str.ofString "min", Ent.gl (.builtin "min")), (Str.ofString "len", Ent.gl (.builtin "len")), (Str.ofString "range", Ent.gl (.type "range"))])
      (src_range1 F (by walk_at "m_mem") (ev_call F (by walk_at "m_mem") (evTs_cons (ev_tmp F (by walk_at "m_mem")) evTs_nil) (callV_len hlen) keepOk_builtin) (by omega) (by rw [List.length_map]; omega)) (by walk_at "m_fgt") ?_ ?_
    · intro i hi
      rw [List.length_map] at hi
      have hi' : i < ns.length := by omega
      have hlen4 := heapsTo_len 5 ns i
      have hmin : Nat.min ns.length 5 = min ns.length 5 := rfl
      have hm : ((0 : Int) + (i : Int)).fmod 5 = ((i % 5 : Nat) : Int) := by
        rw [Int.fmod_eq_emod_of_nonneg _ (by decide)]; omega
      have hlt : i % 5 < (heapsTo 5 ns i).length := by rw [hlen4, hmin]; omega
      refine ⟨_, tgt_name F (by walk_at "m_put"), aug_item (y := (heapsTo 5 ns i).getD (i % 5) 0) (b := ns.getD i 0) F (by walk_at "m_mem") (Ev.cast (ev_mod (ev_val F (by walk_at "m_mem")) ev_int (by decide)) (congrArg D.int hm)) (by omega) ?_ (by omega)
        (Ev.cast (ev_item (ev_tmp F (by walk_at "m_mem")) (ev_val F (by walk_at "m_mem")) (d := .int (ns.getD i 0)) ?_ hlen) rfl) (fun Q s t u q => iadd_int (q _ _)) (by walk_at "m_put") (blk_fgt (by walk_at "m_fgt"))⟩
      · rw [Int.toNat_natCast]; simp [hlt]
      · unfold itemAt
        rw [if_pos (by omega), List.getElem?_map]
        have : ((0 : Int) + (i : Int)).toNat = i := by omega
        rw [this]
        simp [hi']
    · have e : ((((ns.map D.int).length : Nat) : Int) - 0).toNat = ns.length := by rw [List.length_map]; omega
      rw [e]
      exact ret_own F (by walk_at "m_mem") wal

theorem blk_pass {X : Cx} {W : List Addr} {ρ : List (Str × Ent)} {rest : List Stmt} {N : Nrm} {R : Rtn} (n : Blk X W ρ rest N R) : Blk X W ρ [] (Then X rest N R) R := blk_nil fun P s ok => n P s ok
/-- _ge_from_gt of ints -/
theorem ge_spec {X : Cx} {W : List Addr} {aG aH aO : Addr} (G : Lw X.B aG aH aO) (hn : 1 ≤ X.n) (x y : Int) : CallV X W (.ref aG) [.int x, .int y] .f (.bool (decide (y < x) || (x == y))) := by
  refine callV_def (n := 0) hn G.dG rfl (by decide +kernel) (.loc (.loc (.loc (.glob G.type (.glob G.ni .nil))))) (.cons (e := .val true _) (by walk_at "m_put") rfl (.cons (e := .val true _) (by walk_at "m_put") rfl .nil)) ?_
  intro X' hB hn' hT hκ F wal
  refine assign F (Ev.flat (ev_meth F (ev_call F (by walk_at "m_mem") (evTs_cons (ev_val F (by walk_at "m_mem")) evTs_nil) callV_typeInt keepOk_type) getM_gt (evTs_cons (ev_val F (by walk_at "m_mem")) (evTs_cons (ev_val F (by walk_at "m_mem")) evTs_nil)) callV_intGt keepOk_builtin)) (by walk_at "m_put") ?_
  refine blk_if_ret (tst_cmp F (ev_val F (by walk_at "m_mem")) (ev_gl F (by walk_at "m_mem")) cmp_isNI) (fun h => by cases h) fun _ => ?_
  exact ret_flat (ev_or2 (ev_val F (by walk_at "m_mem")) fun _ => ev_cmp F (ev_val F (by walk_at "m_mem")) (ev_val F (by walk_at "m_mem")) cmp_eq)

/-! ### _law_orders -/
def bump (l : List Int) (k : Nat) (d : Int) : List Int := l.take k ++ [l.getD k 0 + d] ++ l.drop (k + 1)
def okB (laid left : List Int) (k : Nat) : Bool :=
  decide (0 < left.getD k 0) && (decide (k = 0) || (decide ((bump laid k 1).getD k 0 < (bump laid k 1).getD (k - 1) 0) || ((bump laid k 1).getD (k - 1) 0 == (bump laid k 1).getD k 0)))
def stepF (f : List Int → List Int → Int) (laid left : List Int) : Nat → Int
  | 0 => 0
  | k + 1 => stepF f laid left k + (if okB laid left k then f (bump laid k 1) (bump left k (-1)) else 0)
def ordTo : Nat → List Int → List Int → Int
  | 0, _, _ => 1
  | m + 1, laid, left => stepF (ordTo m) laid left 3
theorem bump_len {l : List Int} {k : Nat} {d : Int} (h : k < l.length) : (bump l k d).length = l.length := by
  simp [bump]; omega
theorem bump_sum {k : Nat} {d : Int} : ∀ {l : List Int}, k < l.length → (bump l k d).sum = l.sum + d := by
  intro l h
  match l, k, h with
  | [], _, h => simp at h
  | a :: l, 0, _ => simp [bump]; omega
  | a :: l, k + 1, h =>
    have := bump_sum (k := k) (d := d) (l := l) (by simpa using h)
    simp [bump] at this ⊢
    omega
theorem bump_nonneg {l : List Int} {k : Nat} (h : ∀ x ∈ l, 0 ≤ x) (hk : 0 < l.getD k 0) : ∀ x ∈ bump l k (-1), 0 ≤ x := by
  intro x hx
  simp only [bump, List.mem_append, List.mem_singleton] at hx
  rcases hx with (hx | hx) | hx
  · exact h x (List.mem_of_mem_take hx)
  · omega
  · exact h x (List.mem_of_mem_drop hx)
theorem sum_zero : ∀ {l : List Int}, (∀ x ∈ l, 0 ≤ x) → (l.sum = 0 ↔ ∀ x ∈ l, x = 0)
  | [], _ => by simp
  | a :: l, h => by
    have ih := sum_zero (l := l) fun x hx => h x (List.mem_cons_of_mem _ hx)
    have h0 := h a List.mem_cons_self
    have hs : 0 ≤ l.sum := by
      clear ih
      have : ∀ l : List Int, (∀ x ∈ l, 0 ≤ x) → 0 ≤ l.sum := by
        intro l
        induction l with
        | nil => intro _; simp
        | cons b l ih => intro h; have := ih fun x hx => h x (List.mem_cons_of_mem _ hx); have := h b List.mem_cons_self; simp; omega
      exact this l fun x hx => h x (List.mem_cons_of_mem _ hx)
    simp only [List.sum_cons, List.mem_cons, forall_eq_or_imp]
    rw [← ih]
    omega
theorem left_nil {left : List Int} (h3 : left.length = 3) (h0 : ∀ x ∈ left, 0 ≤ x) : (left = [0, 0, 0]) ↔ left.sum = 0 := by
  match left, h3 with
  | [a, b, c], _ =>
    have := sum_zero h0
    rw [this]
    simp
set_option maxHeartbeats 2000000 in
theorem orders_spec {aG aH aO : Addr} : ∀ (m : Nat) {X : Cx} {W : List Addr} (G : Lw X.B aG aH aO) (hn : m + 2 ≤ X.n) (laid left : List Int) (h1 : laid.length = 3) (h2 : left.length = 3) (h0 : ∀ x ∈ left, 0 ≤ x) (hs : left.sum = m),
    CallV X W (.ref aO) [.list (laid.map .int), .list (left.map .int)] .f (.int (ordTo m laid left)) := by
  intro m
  induction m with
  | zero =>
    intro X W G hn laid left h1 h2 h0 hs
    refine callV_def (n := 1) (by omega) G.dO rfl (by decide +kernel) (.loc (.loc (.loc (.loc (.loc (.glob G.range (.glob G.gG (.glob G.gO .nil)))))))) (.cons (e := .tmp true _) (by walk_at "m_put") rfl (.cons (e := .tmp true _) (by walk_at "m_put") rfl .nil)) ?_
    intro X' hB hn' hT hκ F wal
    refine blk_if_ret (c := true) (Tst.cast (tst_cmp F (ev_tmp F (by walk_at "m_mem")) (Ev.cast (ev_list (evs_cons (Ev.toS ev_int) (evs_cons (Ev.toS ev_int) (evs_cons (Ev.toS ev_int) evs_nil)))) (d' := .list (([0, 0, 0] : List Int).map .int)) rfl) cmp_eqL) ?_) (fun _ => ret_flat ev_int) fun h => by cases h
    rw [decide_eq_true_iff]
    exact (left_nil h2 h0).mpr hs
  | succ m ih =>
    intro X W G hn laid left h1 h2 h0 hs
    refine callV_def (n := m + 2) (by omega) G.dO rfl (by decide +kernel) (.loc (.loc (.loc (.loc (.loc (.glob G.range (.glob G.gG (.glob G.gO .nil)))))))) (.cons (e := .tmp true _) (by walk_at "m_put") rfl (.cons (e := .tmp true _) (by walk_at "m_put") rfl .nil)) ?_
    intro X' hB hn' hT hκ F wal
    have G' : Lw X'.B aG aH aO := hB ▸ G
    have hz1 : (laid.map D.int).length ≤ 1000000 := by rw [List.length_map]; omega
    have hz2 : (left.map D.int).length ≤ 1000000 := by rw [List.length_map]; omega
    refine blk_if_ret (c := false) (Tst.cast (tst_cmp F (ev_tmp F (by walk_at "m_mem")) (Ev.cast (ev_list (evs_cons (Ev.toS ev_int) (evs_cons (Ev.toS ev_int) (evs_cons (Ev.toS ev_int) evs_nil)))) (d' := .list (([0, 0, 0] : List Int).map .int)) rfl) cmp_eqL) ?_) (fun h => by cases h) fun _ => ?_
    · rw [decide_eq_false_iff_not, left_nil h2 h0]
      omega
    refine assign F (Ev.toS ev_int) (by walk_at "m_put") ?_
    refine for_rangeN (m := 3) F (fun k => [(Str.ofString "laid", Ent.tmp true (.list (laid.map .int))), (Str.ofString "left", Ent.tmp true (.list (left.map .int))), (Str.ofString "orders", Ent.val true (.int (stepF (ordTo m) laid left k))), (Str.ofString "k", Ent.un), (Str.ofString "more", Ent.un), (Str.ofString "range", Ent.gl (.type "range")), (Str.ofString "_ge_from_gt", Ent.gl (.ref aG)), (Str.ofString "_law_orders", Ent.gl (.ref aO))])
      (by walk_at "m_mem") ev_int rfl (by omega) (by walk_at "m_fgt") ?_ ?_
    · intro k hk
      refine ⟨_, tgt_name F (by walk_at "m_put"), ?_⟩
      have hk1 : k < laid.length := by omega
      have hk2 : k < left.length := by omega
      refine blk_if_ret (c := decide (0 < left.getD k 0)) (tst_cmp F (ev_item (ev_tmp F (by walk_at "m_mem")) (ev_val F (by walk_at "m_mem")) (d := .int (left.getD k 0)) ?_ hz2) ev_int cmp_gt) (fun hc => ?_) fun hc => ?_
      · rw [itemAt_nat _ _ _ hk2]; simp [hk2]
      · have hc' : 0 < left.getD k 0 := of_decide_eq_true hc
        have hb1 := bump_len (d := 1) hk1
        have hb2 := bump_len (d := -1) hk2
        have hz3 : ((bump laid k 1).map D.int).length ≤ 1000000 := by rw [List.length_map]; omega
        refine assign F (Ev.cast (Ev.toS (ev_cat (ev_cat (ev_slice (ev_tmp F (by walk_at "m_mem")) evO_none (evO_some (ev_val F (by walk_at "m_mem"))) evO_none (by decide) hz1) (ev_list (evs_cons (Ev.toS (ev_add (ev_item (ev_tmp F (by walk_at "m_mem")) (ev_val F (by walk_at "m_mem")) (d := .int (laid.getD k 0)) ?_ hz1) ev_int)) evs_nil)) ?_) (ev_slice (ev_tmp F (by walk_at "m_mem")) (evO_some (ev_add (ev_val F (by walk_at "m_mem")) ev_int)) evO_none evO_none (by decide) hz1) ?_)) (d' := .list ((bump laid k 1).map .int)) ?_) (by walk_at "m_put") ?_
        · rw [itemAt_nat _ _ _ hk1]; simp [hk1]
        · rw [sliceL_to _ _ (by omega), List.length_take]; simp; omega
        · rw [sliceL_to _ _ (by omega), sliceL_from _ _ (by omega), List.length_append, List.length_take, List.length_drop]; simp; omega
        · rw [sliceL_to _ _ (by omega), sliceL_from _ _ (by omega)]
          have e1 : ((k : Int) + 1).toNat = k + 1 := by omega
          rw [e1]
          simp [bump]
        have hok : okB laid left k = (decide (k = 0) || (decide ((bump laid k 1).getD k 0 < (bump laid k 1).getD (k - 1) 0) || ((bump laid k 1).getD (k - 1) 0 == (bump laid k 1).getD k 0))) := by
          unfold okB; rw [hc]; rfl
        refine blk_if_ret (c := okB laid left k) (Tst.cast (tst_or (c' := (decide ((bump laid k 1).getD k 0 < (bump laid k 1).getD (k - 1) 0) || ((bump laid k 1).getD (k - 1) 0 == (bump laid k 1).getD k 0))) (tst_cmp F (ev_val F (by walk_at "m_mem")) ev_int cmp_eq) fun hk0 => tst_bool (ev_call F (by walk_at "m_mem") (evTs_cons (ev_item (ev_val F (by walk_at "m_mem")) (ev_sub (ev_val F (by walk_at "m_mem")) ev_int) (d := .int ((bump laid k 1).getD (k - 1) 0)) ?_ hz3) (evTs_cons (ev_item (ev_val F (by walk_at "m_mem")) (ev_val F (by walk_at "m_mem")) (d := .int ((bump laid k 1).getD k 0)) ?_ hz3) evTs_nil)) (ge_spec G' (by omega) _ _) G'.dG.keep)) ?_) (fun hc2 => ?_) fun hc2 => ?_
        · have hk0 : ((k : Int) == 0) = false := hk0
          have : k ≠ 0 := by intro e; subst e; cases hk0
          have e : (k : Int) - 1 = ((k - 1 : Nat) : Int) := by omega
          rw [e, itemAt_nat _ _ _ (by omega)]
          simp [show k - 1 < (bump laid k 1).length by omega]
        · rw [itemAt_nat _ _ _ (by omega)]
          simp [show k < (bump laid k 1).length by omega]
        · rw [hok]
          congr 1
          rw [Bool.eq_iff_iff, beq_iff_eq, decide_eq_true_iff]
          omega
        · refine aug_add (b := ordTo m (bump laid k 1) (bump left k (-1))) F (by walk_at "m_mem") (ev_call F (by walk_at "m_mem") (evTs_cons (ev_val F (by walk_at "m_mem")) (evTs_cons (Ev.cast (ev_cat (ev_cat (ev_slice (ev_tmp F (by walk_at "m_mem")) evO_none (evO_some (ev_val F (by walk_at "m_mem"))) evO_none (by decide) hz2) (ev_list (evs_cons (Ev.toS (ev_sub (ev_item (ev_tmp F (by walk_at "m_mem")) (ev_val F (by walk_at "m_mem")) (d := .int (left.getD k 0)) ?_ hz2) ev_int)) evs_nil)) ?_) (ev_slice (ev_tmp F (by walk_at "m_mem")) (evO_some (ev_add (ev_val F (by walk_at "m_mem")) ev_int)) evO_none evO_none (by decide) hz2) ?_) (d' := .list ((bump left k (-1)).map .int)) ?_) evTs_nil)) (ih G' (by omega) _ _ (by omega) (by omega) (bump_nonneg h0 hc') (by rw [bump_sum hk2]; omega)) G'.dO.keep) (by walk_at "m_put") (blk_pass (blk_pass (blk_fgt (.eq rfl (.eq rfl (.eq ?_ (.un rfl (.un rfl (by walk_at "m_fgt")))))))))
          · rw [itemAt_nat _ _ _ hk2]; simp [hk2]
          · rw [sliceL_to _ _ (by omega), List.length_take]; simp; omega
          · rw [sliceL_to _ _ (by omega), sliceL_from _ _ (by omega), List.length_append, List.length_take, List.length_drop]; simp; omega
          · rw [sliceL_to _ _ (by omega), sliceL_from _ _ (by omega)]
            have e1 : ((k : Int) + 1).toNat = k + 1 := by omega
            rw [e1]
            simp [bump, Int.sub_eq_add_neg]
          · rw [stepF, hc2]; rfl
        · refine blk_pass (blk_fgt (.eq rfl (.eq rfl (.eq ?_ (.un rfl (.un rfl (by walk_at "m_fgt")))))))
          rw [stepF, hc2]; simp
      · refine blk_fgt (.eq rfl (.eq rfl (.eq ?_ (.un rfl (.un rfl (by walk_at "m_fgt"))))))
        rw [stepF, okB, hc]; simp
    · show Blk _ _ _ _ _ (Ret X' W .f (.int (stepF (ordTo m) laid left 3)))
      exact ret_flat (ev_val F (by walk_at "m_mem"))
end Mine



namespace Mine
open PySem PyProof.Rows

local macro_rules | `(tactic| walk_at "m_mem") => `(tactic| first | with_reducible exact List.mem_cons_self | (with_reducible apply List.mem_cons_of_mem; walk_at "m_mem"))
local macro_rules | `(tactic| walk_at "m_put") => `(tactic| first | with_reducible exact Put.here rfl | (with_reducible apply Put.there; walk_at "m_put"))
local macro_rules | `(tactic| walk_at "m_putU") => `(tactic| first | with_reducible exact PutU.here | (with_reducible apply PutU.there; walk_at "m_putU"))

local macro_rules | `(tactic| walk_at "m_putF") => `(tactic| first | with_reducible exact PutF.here rfl | (with_reducible apply PutF.there; walk_at "m_putF"))

local macro_rules | `(tactic| walk_at "m_fgt") => `(tactic| first | exact Fgt.nil | (refine Fgt.un rfl ?_; walk_at "m_fgt") | (refine Fgt.eq rfl ?_; walk_at "m_fgt"))

def lettersF (ns : List Int) : List Int := (heapsTo 5 ns ns.length ++ [0, 1]).map fun x : Int => x.fmod 3
def countsF (ls : List Int) : List Int := (List.range 3).map fun k : Nat => ((ls.count (k : Int) : Nat) : Int)
def facTo : Nat → Int
  | 0 => 1
  | i + 1 => facTo i * ((i : Int) + 1)
def belowF (cs : List Int) (k j : Nat) : List Nat := (List.range (2 - k)).filter fun i => decide ((j : Int) < cs.getD (k + 1 + i) 0)
def hooksIn (cs : List Int) (k : Nat) (p : Int) : Nat → Int
  | 0 => p
  | j + 1 => hooksIn cs k p j * (cs.getD k 0 - (j : Int) + ((belowF cs k j).length : Int))
def hooksTo (cs : List Int) : Nat → Int
  | 0 => 1
  | k + 1 => hooksIn cs k (hooksTo cs k) (cs.getD k 0).toNat
def condF (cs : List Int) : Bool := decide (cs.getD 1 0 ≤ cs.getD 0 0) && decide (cs.getD 2 0 ≤ cs.getD 1 0)
def dueF (cs : List Int) (n : Nat) : Int := if condF cs then (facTo n).fdiv (hooksTo cs 3) else 0
/-- what the law asks -/
structure Asked (cs : List Int) (n : Nat) : Prop where
  ne : hooksTo cs 3 ≠ 0
  lt : (hooksTo cs 3).natAbs < 1073741824
  eq : ordTo n [0, 0, 0] cs = dueF cs n
theorem countsF_len (ls : List Int) : (countsF ls).length = 3 := by simp [countsF]
theorem countsF_bound (ls : List Int) : ∀ x ∈ countsF ls, 0 ≤ x ∧ x ≤ ls.length := by
  intro x hx
  simp only [countsF, List.mem_map, List.mem_range] at hx
  obtain ⟨k, _, rfl⟩ := hx
  have := List.count_le_length (l := ls) (a := (k : Int))
  omega
theorem count_sum : ∀ (ls : List Int), (∀ x ∈ ls, x = 0 ∨ x = 1 ∨ x = 2) → ls.count 0 + ls.count 1 + ls.count 2 = ls.length
  | [], _ => by simp
  | a :: l, h => by
    have ih := count_sum l fun x hx => h x (List.mem_cons_of_mem _ hx)
    rcases h a List.mem_cons_self with e | e | e <;> subst e <;> simp <;> omega
theorem countsF_sum (ls : List Int) (h : ∀ x ∈ ls, x = 0 ∨ x = 1 ∨ x = 2) : (countsF ls).sum = ls.length := by
  have := count_sum ls h
  simp [countsF, List.range_succ]
  omega
theorem lettersF_mem (ns : List Int) : ∀ x ∈ lettersF ns, x = 0 ∨ x = 1 ∨ x = 2 := by
  intro x hx
  simp only [lettersF, List.mem_map] at hx
  obtain ⟨y, _, rfl⟩ := hx
  rw [Int.fmod_eq_emod_of_nonneg _ (by decide)]
  omega
theorem lettersF_len (ns : List Int) : (lettersF ns).length ≤ 7 ∧ 2 ≤ (lettersF ns).length := by
  have := heapsTo_len 5 ns ns.length
  have hm : Nat.min ns.length 5 = min ns.length 5 := rfl
  simp only [lettersF, List.length_map, List.length_append, List.length_cons, List.length_nil]
  omega

set_option maxHeartbeats 4000000 in
theorem law_spec {X : Cx} {W : List Addr} {aG aH aO a : Addr} (G : Lw X.B aG aH aO) (dd : DefAt X.B a (stAt pg 5)) (hn : 10 ≤ X.n) (ns : List Int) (hl : ns.length ≤ 63) (asked : Asked (countsF (lettersF ns)) (lettersF ns).length) :
    CallV X W (.ref a) [.list (ns.map .int)] .f (.bool true) := by
  refine callV_def (n := 9) hn dd rfl (by decide +kernel) (.loc (.cell (.loc (.cell (.loc (.loc (.cell (.loc (.glob G.gH (.glob G.range (.glob G.len (.glob G.gO .nil)))))))))))) (.cons (e := .tmp true _) (by walk_at "m_put") rfl .nil) ?_
  intro X' hB hn' hT hκ F wal
  have G' : Lw X'.B aG aH aO := hB ▸ G
  have hHl := heapsTo_len 5 ns ns.length
  have hm5 : Nat.min ns.length 5 = min ns.length 5 := rfl
  obtain ⟨hls7, hls2⟩ := lettersF_len ns
  have hsum := countsF_sum _ (lettersF_mem ns)
  -- letters
  refine assign_comp (α := Int) (xs := heapsTo 5 ns ns.length ++ [0, 1]) (φ := .int) (out := fun x => [.int (x.fmod 3)]) F (by decide +kernel) rfl (kap (by rw [hκ]; decide +kernel)) ⟨_, .head _⟩
    (.loc (.loc .nil)) ?_ ?_ ?_ (by walk_at "m_put") ?_
  · refine src_list (Ev.toS (Ev.cast (ev_cat (ev_call F (by walk_at "m_mem") (evTs_cons (ev_tmp F (by walk_at "m_mem")) evTs_nil) (heaps_spec G' (by omega) ns hl) G'.dH.keep) (ev_list (evs_cons (Ev.toS ev_int) (evs_cons (Ev.toS ev_int) evs_nil))) ?_) ?_))
    · rw [List.length_map, hHl]; simp; omega
    · simp
  · intro X2 W2 acc hB2 hn2 hκ2 F2 ac x hx
    refine ⟨_, true, tgtC_name F2 (by walk_at "m_putU"), tstAll_nil, fun _ no => ?_, fun h => by cases h⟩
    exact inner_emit F2 ac no rfl (Ev.flat (ev_mod (ev_val F2 (by walk_at "m_mem")) ev_int (by decide)))
  · rw [flatMap_one (fun x : Int => D.int (x.fmod 3)), List.length_map, List.length_append, hHl]; simp; omega
  have hlet : ((heapsTo 5 ns ns.length ++ [0, 1]).flatMap fun x : Int => [D.int (x.fmod 3)]) = (lettersF ns).map .int := by
    rw [flatMap_one (fun x : Int => D.int (x.fmod 3)), lettersF, List.map_map]; rfl
  rw [hlet]
  generalize lettersF ns = ls at *
  -- counts
  refine assign_comp (α := Nat) (xs := List.range 3) (φ := natD) (out := fun k => [.int ((ls.count (k : Int) : Nat) : Int)]) F (by decide +kernel) rfl (kap (by rw [hκ]; decide +kernel)) ⟨_, .head _⟩
    (.loc (.loc (.free (by walk_at "m_mem") rfl .nil))) (src_rangeN F (by walk_at "m_mem") ev_int rfl (by omega)) ?_ ?_ (by walk_at "m_put") ?_
  · intro X2 W2 acc hB2 hn2 hκ2 F2 ac x hx
    refine ⟨_, true, tgtC_name F2 (by walk_at "m_putU"), tstAll_nil, fun _ no => ?_, fun h => by cases h⟩
    exact inner_emit F2 ac no rfl (Ev.flat (ev_meth F2 (ev_val F2 (by walk_at "m_mem")) getM_count (evTs_cons (ev_val F2 (by walk_at "m_mem")) evTs_nil) callV_count keepOk_builtin))
  · rw [flatMap_one (fun k : Nat => D.int ((ls.count (k : Int) : Nat) : Int)), List.length_map, List.length_range]; omega
  have hcs : ((List.range 3).flatMap fun k : Nat => [D.int ((ls.count (k : Int) : Nat) : Int)]) = (countsF ls).map .int := by
    rw [flatMap_one (fun k : Nat => D.int ((ls.count (k : Int) : Nat) : Int)), countsF, List.map_map]; rfl
  rw [hcs]
  have hcl := countsF_len ls
  have hcb := countsF_bound ls
  generalize countsF ls = cs at *
  have hcz : (cs.map D.int).length ≤ 1000000 := by rw [List.length_map]; omega
  have hlz : (ls.map D.int).length ≤ 1000000 := by rw [List.length_map]; omega
  have it : ∀ i : Nat, i < 3 → itemAt (cs.map D.int) (i : Int) = some (.int (cs.getD i 0)) := by
    intro i hi
    rw [itemAt_nat _ _ _ (by omega)]
    simp [show i < cs.length by omega]
  have hgb : ∀ i : Nat, i < 3 → 0 ≤ cs.getD i 0 ∧ cs.getD i 0 ≤ 7 := by
    intro i hi
    have := hcb _ (kso_getD (l := cs) (i := i) (by omega))
    omega
  refine assign F (Ev.toS ev_int) (by walk_at "m_put") ?_
  refine blk_if_ret (c := condF cs) (tst_and (tst_cmp F (ev_item (ev_val F (by walk_at "m_mem")) ev_int (it 0 (by omega)) hcz) (ev_item (ev_val F (by walk_at "m_mem")) ev_int (it 1 (by omega)) hcz) cmp_ge) fun _ => tst_cmp F (ev_item (ev_val F (by walk_at "m_mem")) ev_int (it 1 (by omega)) hcz) (ev_item (ev_val F (by walk_at "m_mem")) ev_int (it 2 (by omega)) hcz) cmp_ge) (fun hc => ?_) fun hc => ?_
  · refine assign F (Ev.toS ev_int) (by walk_at "m_put") ?_
    refine for_rangeN (m := ls.length) F (fun i => [(Str.ofString "script", Ent.tmp true (.list (ns.map .int))), (Str.ofString "letters", Ent.val true (.list (ls.map .int))), (Str.ofString "k", Ent.un), (Str.ofString "counts", Ent.val true (.list (cs.map .int))), (Str.ofString "due", Ent.val true (.int (facTo i))), (Str.ofString "hooks", Ent.un), (Str.ofString "j", Ent.un), (Str.ofString "below", Ent.un), (Str.ofString "_law_heaps", Ent.gl (.ref aH)), (Str.ofString "range", Ent.gl (.type "range")), (Str.ofString "len", Ent.gl (.builtin "len")), (Str.ofString "_law_orders", Ent.gl (.ref aO))]) (by walk_at "m_mem") (ev_call F (by walk_at "m_mem") (evTs_cons (ev_val F (by walk_at "m_mem")) evTs_nil) (callV_len hlz) keepOk_builtin) (by rw [List.length_map]) (by omega) (by walk_at "m_fgt") ?_ ?_
    · intro i hi
      exact ⟨_, tgt_name F (by walk_at "m_put"), aug_mul F (by walk_at "m_mem") (ev_add (ev_val F (by walk_at "m_mem")) ev_int) (mulOk_right (by omega) (by omega)) (by walk_at "m_put") (blk_fgt (by walk_at "m_fgt"))⟩
    refine assign F (Ev.toS ev_int) (by walk_at "m_put") ?_
    refine for_rangeN (m := 3) F (fun k => [(Str.ofString "script", Ent.tmp true (.list (ns.map .int))), (Str.ofString "letters", Ent.val true (.list (ls.map .int))), (Str.ofString "k", Ent.un), (Str.ofString "counts", Ent.val true (.list (cs.map .int))), (Str.ofString "due", Ent.val true (.int (facTo ls.length))), (Str.ofString "hooks", Ent.val true (.int (hooksTo cs k))), (Str.ofString "j", Ent.un), (Str.ofString "below", Ent.un), (Str.ofString "_law_heaps", Ent.gl (.ref aH)), (Str.ofString "range", Ent.gl (.type "range")), (Str.ofString "len", Ent.gl (.builtin "len")), (Str.ofString "_law_orders", Ent.gl (.ref aO))]) (by walk_at "m_mem") ev_int rfl (by omega) (by walk_at "m_fgt") ?_ ?_
    · intro k hk
      have hkb := hgb k hk
      refine ⟨_, tgt_name F (by walk_at "m_put"), ?_⟩
      refine for_rangeN (m := (cs.getD k 0).toNat) F (fun j => [(Str.ofString "script", Ent.tmp true (.list (ns.map .int))), (Str.ofString "letters", Ent.val true (.list (ls.map .int))), (Str.ofString "k", Ent.val true (natD k)), (Str.ofString "counts", Ent.val true (.list (cs.map .int))), (Str.ofString "due", Ent.val true (.int (facTo ls.length))), (Str.ofString "hooks", Ent.val true (.int (hooksIn cs k (hooksTo cs k) j))), (Str.ofString "j", Ent.un), (Str.ofString "below", Ent.un), (Str.ofString "_law_heaps", Ent.gl (.ref aH)), (Str.ofString "range", Ent.gl (.type "range")), (Str.ofString "len", Ent.gl (.builtin "len")), (Str.ofString "_law_orders", Ent.gl (.ref aO))]) (by walk_at "m_mem") (ev_item (ev_val F (by walk_at "m_mem")) (ev_val F (by walk_at "m_mem")) (it k hk) hcz) (by omega) (by omega) (by walk_at "m_fgt") ?_ (blk_fgt (by walk_at "m_fgt"))
      intro j hj
      refine ⟨_, tgt_name F (by walk_at "m_put"), ?_⟩
      -- below
      refine assign_comp (α := Nat) (xs := List.range (2 - k)) (φ := fun i => .int ((k : Int) + 1 + (i : Int))) (out := fun i => if decide ((j : Int) < cs.getD (k + 1 + i) 0) then [.int ((k : Int) + 1 + (i : Int))] else []) F (by decide +kernel) rfl (kap (by rw [hκ]; decide +kernel)) ⟨_, .head _⟩
        (.loc (.loc (.free (by walk_at "m_mem") rfl (.free (by walk_at "m_mem") rfl .nil)))) ?_ ?_ ?_ (by walk_at "m_put") ?_
      · have e : (List.range (2 - k)).map (fun i : Nat => D.int ((k : Int) + 1 + (i : Int))) = rangeD ((k : Int) + 1) 3 := by
          unfold rangeD
          have : ((3 : Int) - ((k : Int) + 1)).toNat = 2 - k := by omega
          rw [this]
        rw [e]
        exact src_range2 F (by walk_at "m_mem") (ev_add (ev_val F (by walk_at "m_mem")) ev_int) ev_int (by omega) (by omega) (by omega) (by omega)
      · intro X2 W2 acc hB2 hn2 hκ2 F2 ac x hx
        have hxl : x < 2 - k := List.mem_range.mp hx
        refine ⟨_, decide ((j : Int) < cs.getD (k + 1 + x) 0), tgtC_name F2 (by walk_at "m_putU"), tstAll_one (tst_cmp F2 (ev_item (ev_val F2 (by walk_at "m_mem")) (ev_val F2 (by walk_at "m_mem")) (d := .int (cs.getD (k + 1 + x) 0)) ?_ hcz) (ev_val F2 (by walk_at "m_mem")) cmp_gt), fun hc no => ?_, fun hc => ?_⟩
        · have e : (k : Int) + 1 + (x : Int) = ((k + 1 + x : Nat) : Int) := by omega
          rw [e]
          exact it _ (by omega)
        · simp only [hc, if_true]
          exact inner_emit F2 ac no rfl (ev_val F2 (by walk_at "m_mem"))
        · rw [hc]; rfl
      · rw [flatMap_if (fun i : Nat => decide ((j : Int) < cs.getD (k + 1 + i) 0)) (fun i : Nat => D.int ((k : Int) + 1 + (i : Int))), List.length_map]
        have := List.length_filter_le (fun i : Nat => decide ((j : Int) < cs.getD (k + 1 + i) 0)) (List.range (2 - k))
        rw [List.length_range] at this
        omega
      rw [flatMap_if (fun i : Nat => decide ((j : Int) < cs.getD (k + 1 + i) 0)) (fun i : Nat => D.int ((k : Int) + 1 + (i : Int)))]
      have hbl : (belowF cs k j).length ≤ 2 := by
        have := List.length_filter_le (fun i : Nat => decide ((j : Int) < cs.getD (k + 1 + i) 0)) (List.range (2 - k))
        rw [List.length_range] at this
        unfold belowF
        omega
      have hbz : ((belowF cs k j).map fun i : Nat => D.int ((k : Int) + 1 + (i : Int))).length ≤ 1000000 := by rw [List.length_map]; omega
      have hfold : (List.range (2 - k)).filter (fun i : Nat => decide ((j : Int) < cs.getD (k + 1 + i) 0)) = belowF cs k j := rfl
      rw [hfold]
      refine aug_mul (b := cs.getD k 0 - (j : Int) + ((belowF cs k j).length : Int)) F (by walk_at "m_mem") (Ev.cast (ev_add (ev_sub (ev_item (ev_val F (by walk_at "m_mem")) (ev_val F (by walk_at "m_mem")) (it k hk) hcz) (ev_val F (by walk_at "m_mem"))) (ev_call F (by walk_at "m_mem") (evTs_cons (ev_val F (by walk_at "m_mem")) evTs_nil) (callV_len hbz) keepOk_builtin)) (by rw [List.length_map])) (mulOk_right (by omega) (by omega)) (by walk_at "m_put") (blk_fgt (by walk_at "m_fgt"))
    refine assign F (Ev.toS (ev_fdiv (ev_val F (by walk_at "m_mem")) (ev_val F (by walk_at "m_mem")) asked.ne asked.lt)) (by walk_at "m_put") ?_
    refine blk_pass (ret_flat (Ev.cast (ev_cmp F (ev_call F (by walk_at "m_mem") (evTs_cons (Ev.cast (ev_list (evs_cons (Ev.toS ev_int) (evs_cons (Ev.toS ev_int) (evs_cons (Ev.toS ev_int) evs_nil)))) (d' := .list (([0, 0, 0] : List Int).map .int)) rfl) (evTs_cons (ev_val F (by walk_at "m_mem")) evTs_nil)) (orders_spec ls.length G' (by omega) [0, 0, 0] cs rfl hcl (fun x hx => (hcb x hx).1) hsum) G'.dO.keep) (ev_val F (by walk_at "m_mem")) cmp_eq) ?_))
    rw [asked.eq, dueF, hc]; simp
  · refine ret_flat (Ev.cast (ev_cmp F (ev_call F (by walk_at "m_mem") (evTs_cons (Ev.cast (ev_list (evs_cons (Ev.toS ev_int) (evs_cons (Ev.toS ev_int) (evs_cons (Ev.toS ev_int) evs_nil)))) (d' := .list (([0, 0, 0] : List Int).map .int)) rfl) (evTs_cons (ev_val F (by walk_at "m_mem")) evTs_nil)) (orders_spec ls.length G' (by omega) [0, 0, 0] cs rfl hcl (fun x hx => (hcb x hx).1) hsum) G'.dO.keep) (ev_val F (by walk_at "m_mem")) cmp_eq) ?_)
    rw [asked.eq, dueF, hc]; simp
end Mine



namespace Mine
def okT (a b c : Nat) : Bool := hooksTo [(a : Int), (b : Int), (c : Int)] 3 != 0 && (decide ((hooksTo [(a : Int), (b : Int), (c : Int)] 3).natAbs < 1073741824) && (ordTo (a + b + c) [0, 0, 0] [(a : Int), (b : Int), (c : Int)] == dueF [(a : Int), (b : Int), (c : Int)] (a + b + c)))
theorem okT_all : ((List.range 8).all fun a => (List.range 8).all fun b => (List.range 8).all fun c => decide (7 < a + b + c) || okT a b c) = true := by decide +kernel
theorem okT_at {a b c : Nat} (h : a + b + c ≤ 7) : okT a b c = true := by
  have h1 := List.all_eq_true.mp okT_all a (List.mem_range.mpr (by omega))
  have h2 := List.all_eq_true.mp h1 b (List.mem_range.mpr (by omega))
  have h3 := List.all_eq_true.mp h2 c (List.mem_range.mpr (by omega))
  rw [Bool.or_eq_true] at h3
  rcases h3 with h3 | h3
  · have := of_decide_eq_true h3; omega
  · exact h3
theorem asked_all (ns : List Int) : Asked (countsF (lettersF ns)) (lettersF ns).length := by
  obtain ⟨h7, _⟩ := lettersF_len ns
  have hs := count_sum _ (lettersF_mem ns)
  generalize lettersF ns = ls at *
  have e : countsF ls = [((ls.count 0 : Nat) : Int), ((ls.count 1 : Nat) : Int), ((ls.count 2 : Nat) : Int)] := by
    simp [countsF, List.range_succ]
  have := okT_at (a := ls.count 0) (b := ls.count 1) (c := ls.count 2) (by omega)
  unfold okT at this
  rw [Bool.and_eq_true, Bool.and_eq_true, bne_iff_ne, beq_iff_eq, decide_eq_true_iff, hs] at this
  rw [e]
  exact ⟨this.1, this.2.1, this.2.2⟩
end Mine



namespace Mine
open PySem PyProof.Rows PySem.Calls

def recAt (st : Stmt) : DefRec := match st with
  | .FunctionDef name a b _ _ _ sc _ _ pos => ⟨name, a, b, sc, pos⟩
  | _ => ⟨Str.empty, ⟨[], [], Option.none, [], [], Option.none, []⟩, [], default, default⟩

def base0 (prog : Program) (w : World) {p : Program} {loose : List Str} {mean : ExcName → Option Value} {mg mb : Str → Option Value} {h : Heap} (T : Top p loose mean mg mb h) : Base where
  prog := prog
  w := w
  h₁ := h
  T := []
  mg := mg
  mb := mb
  nsg := T.g
  nsb := T.b
  lim := T.nolimit
  tg := List.not_mem_nil
  tb := List.not_mem_nil
  ts := List.not_mem_nil

section
variable {prog : Program} {w : World} {p : Program} {loose : List Str} {mean : ExcName → Option Value} {mg mb : Str → Option Value} {h : Heap} (T : Top p loose mean mg mb h)
include T
theorem fn_base {st : Stmt} (hm : recAt st ∈ recsOf p) (hb : (recAt st).body = fBody st) (hp : (recAt st).params = fArgs st) (hs : (recAt st).scope = fScope st)
    (hk : (fScope st).kind = .function) (hc : (fScope st).isCoroutine = false) (hg : (fScope st).isGenerator = false) (nd : ((fScope st).names.map (·.1)).Nodup) :
    ∃ a, mg (recAt st).name = some (.ref a) ∧ DefAt (base0 prog w T) a st := by
  obtain ⟨a, o, pm, code, doc, e, g, dt, cr⟩ := T.fn _ hm
  rw [hb, hp, hs] at dt
  refine ⟨a, e, ⟨_, ⟨⟨⟨o, g, dt⟩, cr, rfl, rfl, hk, hc, hg, nd⟩, List.not_mem_nil, fun _ _ => List.not_mem_nil⟩, ⟨rfl, rfl, rfl, rfl, rfl⟩⟩⟩
theorem glob_fn {x : Str} {v : Value} (e : mg x = some v) : GlobIs (base0 prog w T) x v := .inl e
theorem glob_bi (x : Str) {v : Value} (hh : x ∉ startupNames ∧ x ∉ loose ∧ x ∉ (recsOf p).map (·.name) ∧ x ∉ (litsOf p).map (·.1) ∧ x ∉ (clssOf p loose).map (·.name) ∧ x ≠ Str.ofString "__name__") (hv : bootBuiltins x = some v) : GlobIs (base0 prog w T) x v :=
  let ⟨h1, h2, h3, h4, h5, hx⟩ := hh; .inr ⟨T.free x h1 h2 h3 h4 h5, (T.builtins x hx).trans hv⟩
end

def env0 : Env := { scope := ⟨.function, [], false, false, []⟩, locals := 0, globals := mainGlobals, cells := [], builtins := builtinsNs }
def cx0 (B : Base) (s : Shared) (n : Nat) : Cx := ⟨B, callerA, env0, s, n, [], []⟩
theorem fine0 {B : Base} {s : Shared} {n : Nat} (hs : s.heap = B.h₁) (hn : n ≤ 600) : Fine (cx0 B s n) where
  kind := rfl
  globals := rfl
  builtins := rfl
  start := by show Ext B.T B.h₁ s.heap; rw [hs]; exact .refl ..
  tsub := fun _ h => nomatch h
  kd := fun _ h => nomatch h
  hnd := rfl
  dep := by show 1 + claimMargin + n < recursionLimit; unfold claimMargin recursionLimit; omega
  uni := by show 4 + 8 * n + 100 < cLine; unfold cLine; omega
  cells := fun x y c h => by cases h
theorem ok0 {B : Base} {s : Shared} {n : Nat} : Ok (cx0 B s n) [] [] s where
  ext := .refl ..
  nd := List.nodup_nil
  ent := fun _ h => nomatch h
  own := fun _ h => nomatch h
  wal := fun _ h => nomatch h

theorem head_list {prog : Program} {w : World} {p : Program} {loose : List Str} {mean : ExcName → Option Value} {mg mb : Str → Option Value} {s₁ : Shared} {T : Top p loose mean mg mb s₁.heap} {fa a : Addr} {vs : List Value} {ns : List Int} {n : Nat} {b : Bool}
    {c : ClaimW} {cl : Str → Option Addr} {mean' : ExcName → Option Value} {args : List WData}
    (run : CallV (cx0 (base0 prog w T) s₁ n) [] (.ref fa) [.list (ns.map .int)] .f (.bool b)) (hn : n ≤ 600)
    (hl : s₁.heap.get? a = some { cls := .type "list", data := .seq vs.toArray }) (hI : IntsAre vs ns) (hg : s₁.gens = #[])
    (hr : ∀ cls, c.raises args cls = false) (hp : c.post args (.bool b) args = true) :
    wpAny (model prog w) callerA (call (.ref fa) [.ref a]) (fun v s' => GoodWG c cl mean' args s₁ (.ok (.ret v)) s') (fun e s' => GoodWG c cl mean' args s₁ (.error e) s') s₁ := by
  have hpl : s₁.heap.PlainList a vs.toArray := ⟨_, hl⟩
  refine wpAny_mono (run s₁ [] [.ref a] (fine0 rfl hn) ok0 (.cons ⟨a, vs, rfl, hpl, intsAre_reps hI⟩ .nil)) (fun v s' h => ?_) (fun _ _ h => h.elim)
  obtain ⟨k, r, _⟩ := h
  cases r
  exact ⟨.inl ⟨_, _, [], rfl, hr, ReadsW.bool b, hp, fun _ => ⟨List.nodup_nil, fun _ hm => (nomatch hm)⟩⟩, k.ext.old _ (OldK.refl _), k.os, .of_eq (k.gens.trans hg)⟩
theorem well_list {P : Params} {h : Heap} {a : Addr} {vs : List Value} {xs : List PyData} (x : Well P h (.ref a) (ofPy (.list xs))) (hl : h.IsList a vs.toArray) : h.get? a = some { cls := .type "list", data := .seq vs.toArray } := by
  rw [ofPy] at x
  cases x with
  | list e _ =>
    obtain ⟨o, e2, _, n, hd⟩ := hl
    rw [e] at e2
    cases e2
    have hd : Data.seq _ _ = Data.seq _ _ := hd
    injection hd with h1 h2
    rw [e, h1]
end Mine


set_option maxHeartbeats 8000000
theorem PySem.Challenge.cw_dm0116_04_holds : PySem.Challenge.rw_dm0116_04.Holds := by
  w_on
  o_law
  k_head
  (case hw => w_witness2)
  k_fill
  intro w s₀ s₁ mg mb G Y fa o pm cd doc dV kV ho hd hcd hD hmg hg args vals as hpre hlay hrd hwl hlo
  have KX := kIn_of Y
  refine Ground.open G ?_
  intro T B D TE TW
  wrow_args hpre hlay hrd hwl hlo
  rename_i ns hs hlay0 hL1 hr1 hl2 l5 l4 a vs l1 hL ra w1 r0 hI hrr hc1 hc2
  clear B D TE TW KX Y hD hcd hd
  obtain ⟨aG, eG, dG⟩ := Mine.fn_base (prog := PySem.Challenge.rw_dm0116_04.row.prog) (w := w) T (st := Mine.stAt Mine.pg 1) (.head _) rfl rfl rfl rfl rfl rfl (by decide +kernel)
  obtain ⟨aH, eH, dH⟩ := Mine.fn_base (prog := PySem.Challenge.rw_dm0116_04.row.prog) (w := w) T (st := Mine.stAt Mine.pg 3) (.tail _ (.head _)) rfl rfl rfl rfl rfl rfl (by decide +kernel)
  obtain ⟨aO, eO, dO⟩ := Mine.fn_base (prog := PySem.Challenge.rw_dm0116_04.row.prog) (w := w) T (st := Mine.stAt Mine.pg 4) (.tail _ (.tail _ (.head _))) rfl rfl rfl rfl rfl rfl (by decide +kernel)
  obtain ⟨aL, eL, dL⟩ := Mine.fn_base (prog := PySem.Challenge.rw_dm0116_04.row.prog) (w := w) T (st := Mine.stAt Mine.pg 5) (.tail _ (.tail _ (.tail _ (.head _)))) rfl rfl rfl rfl rfl rfl (by decide +kernel)
  have efa : fa = aL := by
    have := hmg.symm.trans eL
    cases this
    rfl
  subst efa
  have LW : Mine.Lw (Mine.base0 PySem.Challenge.rw_dm0116_04.row.prog w T) aG aH aO :=
    { len := Mine.glob_bi T _ (by decide +kernel) rfl
      min := Mine.glob_bi T _ (by decide +kernel) rfl
      range := Mine.glob_bi T _ (by decide +kernel) rfl
      type := Mine.glob_bi T _ (by decide +kernel) rfl
      ni := Mine.glob_bi T _ (by decide +kernel) rfl
      gG := .inl eG
      gH := .inl eH
      gO := .inl eO
      dG := dG
      dH := dH
      dO := dO }
  have hl : ns.length ≤ 63 := by omega
  have run := Mine.law_spec (X := Mine.cx0 (Mine.base0 PySem.Challenge.rw_dm0116_04.row.prog w T) s₁ 10) (W := []) LW dL (Nat.le_refl _) ns hl (Mine.asked_all ns)
  refine Mine.head_list run (by decide) (Mine.well_list w1 hL) hI hg (fun _ => rfl) ?_
  first | rfl | wrow_post
