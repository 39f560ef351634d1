import PyProof.Rows.All
import Wide.All
import OpenK.AllK
import Wide.FinOn
import Lean
import PySem.Challenge.RW_dm0116_10
open PySem PySem.W PyProof.Rows
set_option Elab.async false
set_option maxRecDepth 100000
set_option linter.unusedVariables false
set_option genSizeOf false
set_option genSizeOfSpec false
set_option genInjectivity false
set_option bootstrap.genMatcherCode false


namespace Mine
open PySem PyProof.Rows

set_option genInjectivity true in
/- plain data -/
inductive D where
  | none
  | bool (b : Bool)
  | int (i : Int)
  | str (s : Str)
  | list (ds : List D)
  | tuple (ds : List D)
  | key (c : Addr) (d : D)
  | val (v : Value)

/- heaps: kept but for the addresses T -/
structure Ext (T : List Addr) (h h' : Heap) : Prop where
  keep : ∀ b o, b ∉ T → h.get? b = some o → h'.get? b = some o
  there : ∀ b o, h.get? b = some o → ∃ o', h'.get? b = some o'
  old : ∀ h₀, (∀ a ∈ T, h₀.get? a = Option.none) → OldK h₀ h → OldK h₀ h'

theorem Ext.of_keep {T : List Addr} {h h' : Heap} (k : ∀ b o, h.get? b = some o → h'.get? b = some o) : Ext T h h' :=
  ⟨fun b o zz1 e => k b o e, fun b o e => ⟨o, k b o e⟩, fun zz1 zz2 K => K.step_keeps k⟩
theorem Ext.refl (T : List Addr) (h : Heap) : Ext T h h := .of_keep fun zz1 zz2 e => e
theorem Ext.trans {T : List Addr} {h h' h'' : Heap} (x : Ext T h h') (y : Ext T h' h'') : Ext T h h'' :=
  ⟨fun b o n e => y.keep b o n (x.keep b o n e), fun b o e => let ⟨o', e'⟩ := x.there b o e; y.there b o' e', fun h₀ n K => y.old h₀ n (x.old h₀ n K)⟩
theorem Ext.strict {h h' : Heap} (x : Ext [] h h') : ∀ b o, h.get? b = some o → h'.get? b = some o := fun b o e => x.keep b o (by simp) e
theorem Ext.wider {T : List Addr} {h h' : Heap} (x : Ext [] h h') : Ext T h h' := .of_keep x.strict
theorem Ext.more {T T' : List Addr} {h h' : Heap} (x : Ext T h h') (k : ∀ a ∈ T, a ∈ T') : Ext T' h h' := ⟨fun b o n e => x.keep b o (fun z => n (k b z)) e, x.there, fun h₀ n K => x.old h₀ (fun a ha => n a (k a ha)) K⟩
theorem Ext.push {T : List Addr} {h h' : Heap} (x : Ext T h h') (o : Obj) : Ext T h (h'.push o) :=
  x.trans (.of_keep fun zz1 zz2 e => Heap.get?_push_of_some o e)

theorem oldK_extBut {h₀ h h' : Heap} (K : OldK h₀ h) {a : Addr} (ha : h₀.get? a = none) (hs : Heap.ExtBut a h h') : OldK h₀ h' := by
  have ne : ∀ b o, h₀.get? b = some o → b ≠ a := fun b o e z => by subst z; rw [ha] at e; cases e
  refine ⟨fun b o e => ?_, fun b o e => let ⟨o', ho'⟩ := K.there b o e; ⟨o', hs b o' (ne b o e) ho'⟩⟩
  rcases K.old b o e with x | ⟨t, hc, vs, more, hv, x⟩ | ⟨rfl, hc, ⟨o', es, n, ho', r⟩, z⟩
  · exact .inl (hs _ _ (ne b o e) x)
  · exact .inr (.inl ⟨t, hc, vs, more, hv, hs _ _ (ne b o e) x⟩)
  · exact .inr (.inr ⟨rfl, hc, ⟨o', es, n, hs _ _ (ne _ o e) ho', r⟩, fun key => by
      rw [OldK.staticOf_congr ((hs _ _ (ne _ o e) ho').trans ho'.symm) key]; exact z key⟩)

theorem Ext.extBut {T : List Addr} {h h' h'' : Heap} {a : Addr} (x : Ext T h h') (ha : h.get? a = none) (hs : Heap.ExtBut a h' h'') : Ext T h h'' := by
  have ne : ∀ b o, h.get? b = some o → b ≠ a := fun b o e z => by subst z; rw [ha] at e; cases e
  refine ⟨fun b o n e => hs _ _ (ne b o e) (x.keep b o n e), fun b o e => let ⟨o', e'⟩ := x.there b o e; ⟨o', hs _ _ (ne b o e) e'⟩, fun h₀ n K => ?_⟩
  refine oldK_extBut (x.old h₀ n K) ?_ hs
  cases q : h₀.get? a with
  | none => rfl
  | some o => obtain ⟨o', e'⟩ := K.there a o q; rw [ha] at e'; cases e'
/- a slot that may be written -/
theorem Ext.slot {T : List Addr} {h h' h'' : Heap} {a : Addr} (x : Ext T h h') (ha : h.get? a = Option.none ∨ a ∈ T) (hs : Heap.ExtBut a h' h'') (hth : ∃ o, h''.get? a = some o) : Ext T h h'' := by
  rcases ha with ha | ha
  · exact x.extBut ha hs
  · refine ⟨fun b o n e => hs _ _ (fun z => n (z ▸ ha)) (x.keep b o n e), fun b o e => ?_, fun h₀ n K => oldK_extBut (x.old h₀ n K) (n a ha) hs⟩
    obtain ⟨o', e'⟩ := x.there b o e
    by_cases z : b = a
    · subst z; exact hth
    · exact ⟨o', hs _ _ z e'⟩
theorem Ext.sameBut {T : List Addr} {h h' h'' : Heap} {a : Addr} (x : Ext T h h') (ha : h.get? a = none) (hs : Heap.SameBut a h' h'') : Ext T h h'' := x.extBut ha hs.extBut

theorem Ext.fresh {T : List Addr} {h h' : Heap} (x : Ext T h h') {a : Addr} (ha : h'.get? a = none) : h.get? a = none := by
  cases q : h.get? a with
  | none => rfl
  | some o => obtain ⟨o', e'⟩ := x.there a o q; rw [ha] at e'; cases e'
theorem get_size (h : Heap) : h.get? h.objs.size = none := by
  cases q : h.get? h.objs.size with
  | none => rfl
  | some o => exact absurd (Heap.lt_size q) (Nat.lt_irrefl _)

structure SExt (T : List Addr) (s s' : Shared) : Prop where
  ext : Ext T s.heap s'.heap
  gens : s'.gens = s.gens
  os : s'.os = s.os
theorem SExt.refl (T : List Addr) (s : Shared) : SExt T s s := ⟨.refl .., rfl, rfl⟩
theorem SExt.trans {T : List Addr} {s s' s'' : Shared} (x : SExt T s s') (y : SExt T s' s'') : SExt T s s'' := ⟨x.ext.trans y.ext, y.gens.trans x.gens, y.os.trans x.os⟩
theorem SExt.wider {T : List Addr} {s s' : Shared} (x : SExt [] s s') : SExt T s s' := ⟨x.ext.wider, x.gens, x.os⟩

/- a key of cmp_to_key's class at c -/
noncomputable def KeyAt (h : Heap) (a c : Addr) (v : Value) : Prop := ∃ o, h.get? a = some o ∧ o.cls = .ref c ∧ o.data = .plain ∧ o.slots = #[some v]

mutual
inductive Rep (W : List Addr) (h : Heap) : Value → D → Prop
  | nun : Rep W h .none .none
  | bool (b : Bool) : Rep W h (.bool b) (.bool b)
  | int (i : Int) (t : Tok) : Rep W h (.int i t) (.int i)
  | str (s : Str) (t : Tok) : Rep W h (.str s t) (.str s)
  | list {a : Addr} {vs : List Value} {ds : List D} : h.PlainList a vs.toArray → a ∉ W → Reps W h vs ds → Rep W h (.ref a) (.list ds)
  | tuple {a : Addr} {vs : List Value} {ds : List D} : h.IsTuple a vs.toArray → a ∉ W → Reps W h vs ds → Rep W h (.ref a) (.tuple ds)
  | key {a c : Addr} {v : Value} {d : D} : KeyAt h a c v → a ∉ W → Rep W h v d → Rep W h (.ref a) (.key c d)
  | val (v : Value) : Rep W h v (.val v)
inductive Reps (W : List Addr) (h : Heap) : List Value → List D → Prop
  | nil : Reps W h [] []
  | cons {v : Value} {d : D} {vs : List Value} {ds : List D} : Rep W h v d → Reps W h vs ds → Reps W h (v :: vs) (d :: ds)
end

theorem Heap.IsList.map {h h' : Heap} {a : Addr} {vs : Array Value} (x : h.PlainList a vs) (k : ∀ o, h.get? a = some o → h'.get? a = some o) : h'.PlainList a vs := x.at k

theorem Rep.move {W W' : List Addr} {h h' : Heap} (k : ∀ a o, a ∉ W → h.get? a = some o → ((∃ xs n, o.data = .seq xs n) ∨ o.data = .plain) → h'.get? a = some o ∧ a ∉ W') {v : Value} {d : D} (x : Rep W h v d) : Rep W' h' v d :=
  Rep.rec (motive_1 := fun v d zz1 => Rep W' h' v d) (motive_2 := fun v d zz1 => Reps W' h' v d) .nun .bool .int .str
    (fun ⟨_, e⟩ w _ r => .list ⟨_, (k _ _ w e (.inl ⟨_, _, rfl⟩)).1⟩ (k _ _ w e (.inl ⟨_, _, rfl⟩)).2 r)
    (fun ⟨_, e, c, _, d⟩ w _ r => .tuple ⟨_, (k _ _ w e (.inl ⟨_, _, d⟩)).1, c, _, d⟩ (k _ _ w e (.inl ⟨_, _, d⟩)).2 r)
    (fun ⟨_, e, c, d, s⟩ w _ r => .key ⟨_, (k _ _ w e (.inr d)).1, c, d, s⟩ (k _ _ w e (.inr d)).2 r) .val .nil (fun zz1 zz2 a b => .cons a b) x
theorem Reps.move {W W' : List Addr} {h h' : Heap} (k : ∀ a o, a ∉ W → h.get? a = some o → ((∃ xs n, o.data = .seq xs n) ∨ o.data = .plain) → h'.get? a = some o ∧ a ∉ W') {vs : List Value} {ds : List D} (x : Reps W h vs ds) : Reps W' h' vs ds := by
  induction vs generalizing ds with
  | nil => cases x; exact .nil
  | cons v vs ih => cases x with | cons a b => exact .cons (Rep.move k a) (ih b)

theorem Rep.keep {W : List Addr} {h h' : Heap} {v : Value} {d : D} (x : Rep W h v d) (k : ∀ b o, h.get? b = some o → h'.get? b = some o) : Rep W h' v d :=
  x.move fun a o hw e zz1 => ⟨k a o e, hw⟩
theorem Reps.keep {W : List Addr} {h h' : Heap} {v : List Value} {d : List D} (x : Reps W h v d) (k : ∀ b o, h.get? b = some o → h'.get? b = some o) : Reps W h' v d :=
  x.move fun a o hw e zz1 => ⟨k a o e, hw⟩
theorem Rep.ext {W : List Addr} {h h' : Heap} {v : Value} {d : D} (x : Rep W h v d) (k : Ext [] h h') : Rep W h' v d := x.keep k.strict
theorem Reps.ext {W : List Addr} {h h' : Heap} {v : List Value} {d : List D} (x : Reps W h v d) (k : Ext [] h h') : Reps W h' v d := x.keep k.strict
theorem Rep.less {W W' : List Addr} {h : Heap} {v : Value} {d : D} (x : Rep W h v d) (k : ∀ a ∈ W', a ∈ W) : Rep W' h v d :=
  x.move fun a o hw e zz1 => ⟨e, fun z => hw (k a z)⟩
theorem Reps.less {W W' : List Addr} {h : Heap} {v : List Value} {d : List D} (x : Reps W h v d) (k : ∀ a ∈ W', a ∈ W) : Reps W' h v d :=
  x.move fun a o hw e zz1 => ⟨e, fun z => hw (k a z)⟩
/- one more masked address, not there before -/
theorem Rep.mask {W : List Addr} {h h' : Heap} {v : Value} {d : D} {a : Addr} (x : Rep W h v d) (k : ∀ b o, h.get? b = some o → h'.get? b = some o) (ha : h.get? a = none) : Rep (a :: W) h' v d :=
  x.move fun b o hw e zz1 => ⟨k b o e, fun z => by
    rcases List.mem_cons.mp z with rfl | z
    · rw [ha] at e; cases e
    · exact hw z⟩
theorem Reps.mask {W : List Addr} {h h' : Heap} {v : List Value} {d : List D} {a : Addr} (x : Reps W h v d) (k : ∀ b o, h.get? b = some o → h'.get? b = some o) (ha : h.get? a = none) : Reps (a :: W) h' v d :=
  x.move fun b o hw e zz1 => ⟨k b o e, fun z => by
    rcases List.mem_cons.mp z with rfl | z
    · rw [ha] at e; cases e
    · exact hw z⟩
/- what is no data at a -/
noncomputable def NoData (h : Heap) (a : Addr) : Prop := ∀ o, h.get? a = some o → ¬ ((∃ xs n, o.data = .seq xs n) ∨ o.data = .plain)
theorem Rep.extBut {W : List Addr} {h h' : Heap} {v : Value} {d : D} {a : Addr} (x : Rep W h v d) (k : Heap.ExtBut a h h') (ha : a ∈ W ∨ NoData h a) : Rep W h' v d :=
  x.move fun b o hw e q => ⟨k b o (fun z => by
    subst z
    rcases ha with ha | ha
    · exact hw ha
    · exact ha o e q) e, hw⟩
theorem Reps.extBut {W : List Addr} {h h' : Heap} {v : List Value} {d : List D} {a : Addr} (x : Reps W h v d) (k : Heap.ExtBut a h h') (ha : a ∈ W ∨ NoData h a) : Reps W h' v d :=
  x.move fun b o hw e q => ⟨k b o (fun z => by
    subst z
    rcases ha with ha | ha
    · exact hw ha
    · exact ha o e q) e, hw⟩

theorem Reps.length {W : List Addr} {h : Heap} {vs : List Value} {ds : List D} (x : Reps W h vs ds) : vs.length = ds.length := by
  induction vs generalizing ds with
  | nil => cases x; rfl
  | cons v vs ih => cases x with | cons _ r => rw [List.length_cons, List.length_cons, ih r]
theorem Reps.append {W : List Addr} {h : Heap} {vs : List Value} {ds : List D} {us : List Value} {es : List D} (x : Reps W h vs ds) (y : Reps W h us es) : Reps W h (vs ++ us) (ds ++ es) := by
  induction vs generalizing ds with
  | nil => cases x; exact y
  | cons v vs ih => cases x with | cons a r => exact .cons a (ih r)
theorem Reps.get {W : List Addr} {h : Heap} {vs : List Value} {ds : List D} (x : Reps W h vs ds) {i : Nat} {d : D} (e : ds[i]? = some d) : ∃ v, vs[i]? = some v ∧ Rep W h v d := by
  induction vs generalizing ds i with
  | nil => cases x; cases e
  | cons v vs ih =>
    cases x with
    | cons a r =>
      cases i with
      | zero => cases e; exact ⟨v, rfl, a⟩
      | succ i => exact ih r (by simpa using e)
theorem Reps.take {W : List Addr} {h : Heap} {vs : List Value} {ds : List D} (x : Reps W h vs ds) (n : Nat) : Reps W h (vs.take n) (ds.take n) := by
  induction vs generalizing ds n with
  | nil => cases x; simp; exact .nil
  | cons v vs ih =>
    cases x with
    | cons a r =>
      cases n with
      | zero => exact .nil
      | succ n => exact .cons a (ih r n)
theorem Reps.drop {W : List Addr} {h : Heap} {vs : List Value} {ds : List D} (x : Reps W h vs ds) (n : Nat) : Reps W h (vs.drop n) (ds.drop n) := by
  induction vs generalizing ds n with
  | nil => cases x; simp; exact .nil
  | cons v vs ih =>
    cases x with
    | cons a r =>
      cases n with
      | zero => exact .cons a r
      | succ n => exact ih r n

/- a list whose own address may be masked -/
noncomputable def RepT (W : List Addr) (h : Heap) (v : Value) : D → Prop
  | .list ds => ∃ a vs, v = .ref a ∧ h.PlainList a vs.toArray ∧ Reps W h vs ds
  | d => Rep W h v d
theorem Rep.toT {W : List Addr} {h : Heap} {v : Value} {d : D} (x : Rep W h v d) : RepT W h v d := by
  cases d with
  | list ds => cases x with | list hl hw hr => exact ⟨_, _, rfl, hl, hr⟩
  | _ => exact x
theorem RepT.keep {W : List Addr} {h h' : Heap} {v : Value} {d : D} (x : RepT W h v d) (k : ∀ b o, h.get? b = some o → h'.get? b = some o) : RepT W h' v d := by
  cases d with
  | list ds =>
    obtain ⟨a, vs, rfl, hl, hr⟩ := x
    exact ⟨a, vs, rfl, Mine.Heap.IsList.map hl (k a), hr.keep k⟩
  | _ => exact Rep.keep x k
theorem RepT.ext {W : List Addr} {h h' : Heap} {v : Value} {d : D} (x : RepT W h v d) (k : Ext [] h h') : RepT W h' v d := x.keep k.strict

end Mine



namespace Mine
open PySem PyProof.Rows

structure Base where
  prog : Program
  w : World
  h₁ : Heap
  T : List Addr
  mg : Str → Option Value
  mb : Str → Option Value
  nsg : h₁.Ns mainGlobals mg
  nsb : h₁.Ns builtinsNs mb
  lim : h₁.NoLimit
  tg : mainGlobals ∉ T
  tb : builtinsNs ∉ T
  ts : cStatics ∉ T

structure Cx where
  B : Base
  A : Around
  env : Env
  sE : Shared
  n : Nat
  T : List Addr
  κ : List Str

noncomputable def Cx.M (X : Cx) : Model := model X.B.prog X.B.w

structure Fine (X : Cx) : Prop where
  kind : X.env.scope.kind = .function
  globals : X.env.globals = mainGlobals
  builtins : X.env.builtins = builtinsNs
  start : Ext X.B.T X.B.h₁ X.sE.heap
  tsub : ∀ a ∈ X.T, a ∈ X.B.T
  kd : ∀ x ∈ X.κ, X.env.kindOf x = some .cell ∨ X.env.kindOf x = some .free
  hnd : X.A.handled = Option.none
  dep : X.A.depth + X.n < recursionLimit
  uni : X.A.units + 8 * X.n + 100 < cLine
  cells : ∀ x y c, X.env.cells.lookup x = some c → X.env.cells.lookup y = some c → x = y

inductive Ent where
  | un
  | val (rw : Bool) (d : D)
  | tmp (rw : Bool) (d : D)
  | ownD (a : Addr) (ds : List D)
  | gl (v : Value)
noncomputable abbrev Ent.own (a : Addr) (ns : List Int) : Ent := .ownD a (ns.map .int)

noncomputable abbrev Ent.rw : Ent → Bool
  | .un => true
  | .val b _ => b
  | .tmp b _ => b
  | .ownD _ _ => true
  | .gl _ => false
noncomputable abbrev Ent.ro : Ent → Ent
  | .un => .val false .none
  | .val _ d => .val false d
  | .tmp _ d => .tmp false d
  | .ownD _ ds => .tmp false (.list ds)
  | .gl v => .gl v

noncomputable abbrev Ent.known : Ent → Bool
  | .un => false
  | .gl _ => false
  | _ => true

noncomputable def EntOk (hE : Heap) (W : List Addr) (h : Heap) (ov : Option Value) : Ent → Prop
  | .un => True
  | .val _ d => ∃ v, ov = some v ∧ Rep W h v d
  | .tmp _ d => ∃ v, ov = some v ∧ RepT W h v d ∧ ∀ b, v = .ref b → ∃ o, hE.get? b = some o
  | .ownD a ds => ov = some (.ref a) ∧ a ∈ W ∧ hE.get? a = Option.none ∧ ∃ vs, h.PlainList a vs.toArray ∧ Reps W h vs ds
  | .gl _ => False

noncomputable def GlobIs (B : Base) (x : Str) (v : Value) : Prop := B.mg x = some v ∨ (B.mg x = Option.none ∧ B.mb x = some v)

noncomputable def Holds1 (h : Heap) (env : Env) (x : Str) (ov : Option Value) : Prop :=
  (env.kindOf x = some .local ∧ ∃ m, h.Ns env.locals m ∧ m x = ov) ∨
  ((env.kindOf x = some .cell ∨ env.kindOf x = some .free) ∧ ∃ c, env.cells.lookup x = some c ∧ h.IsCell c ov)

noncomputable def Fresh1 (T : List Addr) (hE : Heap) (env : Env) (x : Str) : Prop :=
  (env.kindOf x = some .local → hE.get? env.locals = Option.none ∨ env.locals ∈ T) ∧ env.kindOf x ≠ some .free ∧ (∀ c, env.kindOf x = some .cell → env.cells.lookup x = some c → hE.get? c = Option.none ∨ c ∈ T)

noncomputable def EntryOk (X : Cx) (W : List Addr) (h : Heap) (p : Str × Ent) : Prop :=
  (∃ v, p.2 = .gl v ∧ X.env.kindOf p.1 = some .globalImplicit ∧ GlobIs X.B p.1 v) ∨
  ((∃ ov, Holds1 h X.env p.1 ov ∧ EntOk X.sE.heap W h ov p.2) ∧ (p.2.rw = true → Fresh1 X.T X.sE.heap X.env p.1))

structure Ok (X : Cx) (W : List Addr) (ρ : List (Str × Ent)) (s : Shared) : Prop where
  ext : SExt X.T X.sE s
  nd : (ρ.map (·.1)).Nodup
  ent : ∀ p ∈ ρ, EntryOk X W s.heap p
  own : ∀ p ∈ ρ, ∀ q ∈ ρ, ∀ a ns b ms, p.2 = .ownD a ns → q.2 = .ownD b ms → p.1 ≠ q.1 → a ≠ b
  wal : ∀ a ∈ W, ∃ o, s.heap.get? a = some o

theorem EntOk.keep {hE : Heap} {W : List Addr} {h h' : Heap} {ov : Option Value} {e : Ent} (x : EntOk hE W h ov e) (k : ∀ b o, h.get? b = some o → h'.get? b = some o) : EntOk hE W h' ov e := by
  cases e with
  | un => trivial
  | val _ d => obtain ⟨v, e, r⟩ := x; exact ⟨v, e, r.keep k⟩
  | tmp _ d => obtain ⟨v, e, r, z⟩ := x; exact ⟨v, e, r.keep k, z⟩
  | ownD a ns => obtain ⟨e, w, f, vs, l, r⟩ := x; exact ⟨e, w, f, vs, Mine.Heap.IsList.map l (k a), r.keep k⟩
  | gl v => cases x
theorem Holds1.keep {h h' : Heap} {env : Env} {x : Str} {ov : Option Value} (y : Holds1 h env x ov) (k : ∀ b o, h.get? b = some o → h'.get? b = some o) : Holds1 h' env x ov := by
  rcases y with ⟨a, m, n, e⟩ | ⟨a, c, e, n⟩
  · exact .inl ⟨a, m, n.keeps k, e⟩
  · exact .inr ⟨a, c, e, n.keeps k⟩
theorem Ok.mono {X : Cx} {W : List Addr} {ρ : List (Str × Ent)} {s s' : Shared} (x : Ok X W ρ s) (k : SExt [] s s') : Ok X W ρ s' := by
  refine ⟨x.ext.trans k.wider, x.nd, fun p hp => ?_, x.own, fun a ha => let ⟨o, e⟩ := x.wal a ha; ⟨o, k.ext.strict a o e⟩⟩
  rcases x.ent p hp with g | ⟨⟨ov, a, b⟩, c⟩
  · exact .inl g
  · exact .inr ⟨⟨ov, a.keep k.ext.strict, b.keep k.ext.strict⟩, c⟩
theorem Ok.base {X : Cx} {W : List Addr} {ρ : List (Str × Ent)} {s : Shared} (F : Fine X) (x : Ok X W ρ s) : Ext X.B.T X.B.h₁ s.heap := F.start.trans (x.ext.ext.more F.tsub)

theorem ns_ext {T : List Addr} {h h' : Heap} {a : Addr} {m : Str → Option Value} (x : Ext T h h') (n : h.Ns a m) (ha : a ∉ T) : h'.Ns a m :=
  let ⟨o, es, ep, e, r⟩ := n; ⟨o, es, ep, x.keep _ _ ha e, r⟩
theorem Ok.nsg {X : Cx} {W : List Addr} {ρ : List (Str × Ent)} {s : Shared} (F : Fine X) (x : Ok X W ρ s) : s.heap.Ns mainGlobals X.B.mg := ns_ext (x.base F) X.B.nsg X.B.tg
theorem Ok.nsb {X : Cx} {W : List Addr} {ρ : List (Str × Ent)} {s : Shared} (F : Fine X) (x : Ok X W ρ s) : s.heap.Ns builtinsNs X.B.mb := ns_ext (x.base F) X.B.nsb X.B.tb
theorem Ok.lim {X : Cx} {W : List Addr} {ρ : List (Str × Ent)} {s : Shared} (F : Fine X) (x : Ok X W ρ s) : s.heap.NoLimit := by
  obtain ⟨mc, n, e⟩ := X.B.lim
  exact ⟨mc, ns_ext (x.base F) n X.B.ts, e⟩

inductive Lv where
  | t | s | f
noncomputable def Post (l : Lv) (W : List Addr) (h : Heap) (v : Value) (h' : Heap) (d : D) : Prop := match l with
  | .t => RepT W h' v d
  | .s => Rep W h' v d
  | .f => Rep W h' v d ∧ ∀ a, v = .ref a → h.get? a = Option.none

noncomputable abbrev NoE : Value → Shared → Prop := fun zz1 zz2 => False

noncomputable def Ev (X : Cx) (W : List Addr) (ρ : List (Str × Ent)) (l : Lv) (e : Expr) (d : D) : Prop :=
  ∀ s, Ok X W ρ s → wpAny X.M X.A (eval e X.env) (fun v s' => SExt [] s s' ∧ Post l W s.heap v s'.heap d) NoE s

section
variable {X : Cx} {W : List Addr} {ρ : List (Str × Ent)}
theorem Post.toT {l : Lv} {h h' : Heap} {v : Value} {d : D} (x : Post l W h v h' d) : RepT W h' v d := by
  cases l with
  | t => exact x
  | s => exact Rep.toT x
  | f => exact Rep.toT x.1
theorem Ev.toT {l : Lv} {e : Expr} {d : D} (x : Ev X W ρ l e d) : Ev X W ρ .t e d := fun s hs => wpAny_mono (x s hs) (fun v s' h => ⟨h.1, h.2.toT⟩) fun zz1 zz2 h => h
theorem Ev.toS {e : Expr} {d : D} (x : Ev X W ρ .f e d) : Ev X W ρ .s e d := fun s hs => wpAny_mono (x s hs) (fun v s' h => ⟨h.1, h.2.1⟩) fun zz1 zz2 h => h
/- what is no list, tuple or key -/
noncomputable def D.flat : D → Bool
  | .none | .bool _ | .int _ | .str _ => true
  | _ => false
theorem Ev.flat {l l' : Lv} {e : Expr} {d : D} (x : Ev X W ρ l e d) (hd : d.flat = true := by rfl) : Ev X W ρ l' e d := fun s hs => wpAny_mono (x s hs) (fun v s' h => ⟨h.1, by
  have r : Rep W s'.heap v d := by
    have := h.2.toT
    cases d <;> first | exact this | cases hd
  cases l' with
  | t => exact r.toT
  | s => exact r
  | f => exact ⟨r, fun a e => by subst e; cases r <;> cases hd⟩⟩) fun zz1 zz2 h => h

theorem Ev.cast {l : Lv} {e : Expr} {d d' : D} (x : Ev X W ρ l e d) (h : d = d') : Ev X W ρ l e d' := h ▸ x
theorem sext_toks {T : List Addr} (s : Shared) (n : Nat) : SExt T s { s with toks := n } := ⟨.refl .., rfl, rfl⟩
theorem sext_push {T : List Addr} (s : Shared) (o : Obj) : SExt T s { s with heap := s.heap.push o } := ⟨(Ext.refl ..).push o, rfl, rfl⟩
theorem ev_int {i : Int} {k : Nat} {pos : Pos} : Ev X W ρ .f (.Constant (.int i) k pos) (.int i) := fun s hs =>
  wpAny_Constant_int ⟨sext_toks _ _, .int _ _, fun zz1 e => by cases e⟩
theorem load1 {env : Env} {x : Str} {v : Value} {M : Model} {A : Around} {E : Value → Shared → Prop} {Q : Value → Shared → Prop} {s : Shared} (hk : env.scope.kind = .function) (h : Holds1 s.heap env x (some v)) (q : Q v s) (hx : (x == ("__classdict__" : Str)) = false) :
    wpAny M A (loadName env x) Q E s := by
  rcases h with ⟨a, m, n, e⟩ | ⟨a | a, c, e, n⟩
  · exact wpAny_loadName_local hk a n e q
  · exact wpAny_loadName_cell hk a e n q
  · exact wpAny_loadName_free hk a e n q hx

/- a name that may be read -/
noncomputable def okName (x : Str) : Bool := !(x == ("__debug__" : Str)) && !(x == ("__classdict__" : Str))
theorem okName_d {x : Str} (h : okName x = true) : (x == ("__debug__" : Str)) = false ∧ (x == ("__classdict__" : Str)) = false := by
  unfold okName at h
  simp only [Bool.and_eq_true, Bool.not_eq_true'] at h
  exact h

theorem ev_val {x : Str} {pos : Pos} {b : Bool} {d : D} (F : Fine X) (hm : (x, Ent.val b d) ∈ ρ) (hx : okName x = true := by decide +kernel) : Ev X W ρ .s (.Name x pos) d := fun s hs => by
  obtain ⟨_, z, _⟩ | ⟨⟨ov, h1, v, rfl, r⟩, _⟩ := hs.ent _ hm
  · cases z
  exact wpAny_Name (load1 F.kind h1 ⟨SExt.refl .., r⟩ (okName_d hx).2) (okName_d hx).1
theorem ev_tmp {x : Str} {pos : Pos} {b : Bool} {d : D} (F : Fine X) (hm : (x, Ent.tmp b d) ∈ ρ) (hx : okName x = true := by decide +kernel) : Ev X W ρ .t (.Name x pos) d := fun s hs => by
  obtain ⟨_, z, _⟩ | ⟨⟨ov, h1, v, rfl, r, _⟩, _⟩ := hs.ent _ hm
  · cases z
  exact wpAny_Name (load1 F.kind h1 ⟨SExt.refl .., r⟩ (okName_d hx).2) (okName_d hx).1
theorem ev_ownD {x : Str} {pos : Pos} {a : Addr} {ds : List D} (F : Fine X) (hm : (x, Ent.ownD a ds) ∈ ρ) (hx : okName x = true := by decide +kernel) : Ev X W ρ .t (.Name x pos) (.list ds) := fun s hs => by
  obtain ⟨_, z, _⟩ | ⟨⟨ov, h1, rfl, _, _, vs, hl, r⟩, _⟩ := hs.ent _ hm
  · cases z
  exact wpAny_Name (load1 F.kind h1 ⟨SExt.refl .., a, vs, rfl, hl, r⟩ (okName_d hx).2) (okName_d hx).1
theorem ev_own {x : Str} {pos : Pos} {a : Addr} {ns : List Int} (F : Fine X) (hm : (x, Ent.own a ns) ∈ ρ) (hx : okName x = true := by decide +kernel) : Ev X W ρ .t (.Name x pos) (.list (ns.map .int)) := ev_ownD F hm hx
theorem ev_gl {x : Str} {pos : Pos} {v : Value} (F : Fine X) (hm : (x, Ent.gl v) ∈ ρ) (hx : okName x = true := by decide +kernel) : Ev X W ρ .s (.Name x pos) (.val v) := fun s hs => by
  obtain ⟨v', z, hk, hg⟩ | ⟨⟨ov, _, z⟩, _⟩ := hs.ent _ hm
  · cases z
    have n := hs.nsg F
    rw [← F.globals] at n
    have m := hs.nsb F
    rw [← F.builtins] at m
    rcases hg with hv | ⟨hg, hv⟩
    · exact Calls.Name_function_global F.kind hk (Calls.loadGlobal_global n hv ⟨SExt.refl .., .val v⟩) (okName_d hx).1
    · exact Calls.Name_function_global F.kind hk (Calls.loadGlobal_builtin n hg m hv ⟨SExt.refl .., .val v⟩) (okName_d hx).1
  · cases z

/- two parts one after the other -/
theorem ev_two {f : Value → Value → Sem Value} {l₁ l₂ : Lv} {e₁ e₂ : Expr} {d₁ d₂ : D} {s : Shared} {Q : Value → Shared → Prop} (h₁ : Ev X W ρ l₁ e₁ d₁) (h₂ : Ev X W ρ l₂ e₂ d₂) (hs : Ok X W ρ s)
    (q : ∀ a b s', SExt [] s s' → RepT W s'.heap a d₁ → RepT W s'.heap b d₂ → wpAny X.M X.A (f a b) Q NoE s') :
    wpAny X.M X.A (eval e₁ X.env) (fun a s₁ => wpAny X.M X.A (eval e₂ X.env) (fun b s₂ => wpAny X.M X.A (f a b) Q NoE s₂) NoE s₁) NoE s :=
  wpAny_mono (h₁ s hs) (fun a s₁ k₁ => wpAny_mono (h₂ s₁ (hs.mono k₁.1)) (fun b s₂ k₂ => q a b s₂ (k₁.1.trans k₂.1) (k₁.2.toT.ext k₂.1.ext) k₂.2.toT) fun zz1 zz2 h => h) fun zz1 zz2 h => h

theorem repT_int {h : Heap} {v : Value} {i : Int} (x : RepT W h v (.int i)) : ∃ t, v = .int i t := by
  have y : Rep W h v (.int i) := x
  cases y with | int _ t => exact ⟨t, rfl⟩
end

section
variable {X : Cx} {W : List Addr} {ρ : List (Str × Ent)} {l₁ l₂ : Lv} {e₁ e₂ : Expr} {a b : Int} {pos : Pos}

theorem ev_binint {op : Operator} {r : Int} (h₁ : Ev X W ρ l₁ e₁ (.int a)) (h₂ : Ev X W ρ l₂ e₂ (.int b))
    (h : ∀ (Q : Value → Shared → Prop) (s : Shared) (t u : Tok), (∀ tk tk', Q (.int r tk) { s with toks := tk' }) → wpAny X.M X.A (binaryOp op (.int a t) (.int b u)) Q NoE s) : Ev X W ρ .f (.BinOp e₁ op e₂ pos) (.int r) := fun s hs => by
  refine wpAny_BinOp (ev_two (f := fun a b => binaryOp op a b) h₁ h₂ hs fun va vb s' k ra rb => ?_)
  obtain ⟨t, rfl⟩ := repT_int ra
  obtain ⟨u, rfl⟩ := repT_int rb
  exact h _ _ _ _ fun tk tk' => ⟨k.trans (sext_toks _ _), .int _ _, fun zz1 e => by cases e⟩
theorem ev_add (h₁ : Ev X W ρ l₁ e₁ (.int a)) (h₂ : Ev X W ρ l₂ e₂ (.int b)) : Ev X W ρ .f (.BinOp e₁ .Add e₂ pos) (.int (a + b)) :=
  ev_binint h₁ h₂ fun Q s t u q => add_int (q _ _)
theorem ev_sub (h₁ : Ev X W ρ l₁ e₁ (.int a)) (h₂ : Ev X W ρ l₂ e₂ (.int b)) : Ev X W ρ .f (.BinOp e₁ .Sub e₂ pos) (.int (a - b)) :=
  ev_binint h₁ h₂ fun Q s t u q => sub_int (q _ _)
theorem ev_mod (h₁ : Ev X W ρ l₁ e₁ (.int a)) (h₂ : Ev X W ρ l₂ e₂ (.int b)) (hb : b ≠ 0) : Ev X W ρ .f (.BinOp e₁ .Mod e₂ pos) (.int (a.fmod b)) :=
  ev_binint h₁ h₂ fun Q s t u q => mod_int hb (q _ _)
theorem ev_fdiv (h₁ : Ev X W ρ l₁ e₁ (.int a)) (h₂ : Ev X W ρ l₂ e₂ (.int b)) (hb : b ≠ 0) (hz : b.natAbs < 1073741824) : Ev X W ρ .f (.BinOp e₁ .FloorDiv e₂ pos) (.int (a.fdiv b)) :=
  ev_binint h₁ h₂ fun Q s t u q => floordiv_int hb (q _ _) (.inl (PyProof.noPylong_small hz))
theorem ev_neg (h₁ : Ev X W ρ l₁ e₁ (.int a)) : Ev X W ρ .f (.UnaryOp .USub e₁ pos) (.int (-a)) := fun s hs =>
  wpAny_UnaryOp (wpAny_mono (h₁ s hs) (fun v s' k => by
    obtain ⟨t, rfl⟩ := repT_int k.2.toT
    exact neg_int ⟨k.1.trans (sext_toks _ _), .int _ _, fun zz1 e => by cases e⟩) fun zz1 zz2 h => h)

/- what a comparison gives -/
noncomputable def CmpV (X : Cx) (W : List Addr) (op : CmpOp) (d₁ d₂ : D) (c : Bool) : Prop :=
  ∀ (s : Shared) (va vb : Value), (∀ ρ, Fine X → Ok X W ρ s → RepT W s.heap va d₁ → RepT W s.heap vb d₂ → wpAny X.M X.A (compareOp op va vb) (fun v s' => SExt [] s s' ∧ v = .bool c) NoE s)
theorem cmp_int {op : CmpOp} {c : Bool} (h : ∀ (Q : Value → Shared → Prop) (s : Shared) (t u : Tok), Q (.bool c) s → wpAny X.M X.A (compareOp op (.int a t) (.int b u)) Q NoE s) : CmpV X W op (.int a) (.int b) c := by
  intro s va vb ρ F hs ra rb
  obtain ⟨t, rfl⟩ := repT_int ra
  obtain ⟨u, rfl⟩ := repT_int rb
  exact h _ _ _ _ ⟨.refl .., rfl⟩
theorem cmp_lt : CmpV X W .Lt (.int a) (.int b) (decide (a < b)) := cmp_int fun Q s t u q => lt_int q
theorem cmp_gt : CmpV X W .Gt (.int a) (.int b) (decide (b < a)) := cmp_int fun Q s t u q => gt_int q
theorem cmp_eq : CmpV X W .Eq (.int a) (.int b) (a == b) := cmp_int fun Q s t u q => eq_int q
theorem cmp_ne : CmpV X W .NotEq (.int a) (.int b) (a != b) := cmp_int fun Q s t u q => ne_int q

theorem ev_cmp {op : CmpOp} {d₁ d₂ : D} {c : Bool} (F : Fine X) (h₁ : Ev X W ρ l₁ e₁ d₁) (h₂ : Ev X W ρ l₂ e₂ d₂) (h : CmpV X W op d₁ d₂ c) (hm : behindInMarks op e₂ = false := by with_unfolding_all rfl) :
    Ev X W ρ .f (.Compare e₁ [op] [e₂] pos) (.bool c) := fun s hs => by
  refine wpAny_Compare1 (ev_two (f := fun a b => compareOp op a b) h₁ h₂ hs fun va vb s' k ra rb => ?_) hm
  exact wpAny_mono (h s' va vb ρ F (hs.mono k) ra rb) (fun v s'' q => ⟨k.trans q.1, by rw [q.2]; exact .bool c, fun zz1 e => by rw [q.2] at e; cases e⟩) fun zz1 zz2 h => h
end

/- the truth of a test -/
noncomputable def Tst (X : Cx) (W : List Addr) (ρ : List (Str × Ent)) (e : Expr) (c : Bool) : Prop :=
  ∀ s, Ok X W ρ s → wpAny X.M X.A (isTrue e X.env (eval e X.env)) (fun v s' => SExt [] s s' ∧ v = c) NoE s

section
variable {X : Cx} {W : List Addr} {ρ : List (Str × Ent)} {l l₁ l₂ : Lv} {e e₁ e₂ : Expr} {pos : Pos} {c c' : Bool}
theorem tst_cmp {op : CmpOp} {d₁ d₂ : D} (F : Fine X) (h₁ : Ev X W ρ l₁ e₁ d₁) (h₂ : Ev X W ρ l₂ e₂ d₂) (h : CmpV X W op d₁ d₂ c) (hm : behindInMarks op e₂ = false := by with_unfolding_all rfl) :
    Tst X W ρ (.Compare e₁ [op] [e₂] pos) c := fun s hs => by
  refine wpAny_isTrue_Compare1 (wpAny_mono (h₁ s hs) (fun a s₁ k₁ => wpAny_mono (h₂ s₁ (hs.mono k₁.1)) (fun b s₂ k₂ => ?_) fun zz1 zz2 h => h) fun zz1 zz2 h => h) hm
  refine wpAny_mono (h s₂ a b ρ F (hs.mono (k₁.1.trans k₂.1)) (k₁.2.toT.ext k₂.1.ext) k₂.2.toT) (fun v s'' q => ?_) fun zz1 zz2 h => h
  rw [q.2]
  exact wpAny_truthy_bool ⟨(k₁.1.trans k₂.1).trans q.1, rfl⟩
/- and: the right side is asked only where the left holds -/
theorem tst_and (h : Tst X W ρ e₁ c) (h' : c = true → Tst X W ρ e₂ c') : Tst X W ρ (.BoolOp .And [e₁, e₂] pos) (c && c') := fun s hs => by
  refine wpAny_isTrue_BoolOp (wpAny_allTrue_And_cons (wpAny_mono (h s hs) (fun b s₁ k => ?_) fun zz1 zz2 h => h))
  obtain ⟨k, rfl⟩ := k
  cases b with
  | false => exact ⟨k, rfl⟩
  | true =>
    refine wpAny_allTrue_And_cons (wpAny_mono (h' rfl s₁ (hs.mono k)) (fun b s₂ k' => ?_) fun zz1 zz2 h => h)
    obtain ⟨k', rfl⟩ := k'
    cases b with
    | false => exact ⟨k.trans k', rfl⟩
    | true => exact wpAny_allTrue_And_nil ⟨k.trans k', rfl⟩
end
end Mine



namespace Mine
open PySem PyProof.Rows

inductive RepTs (W : List Addr) (h : Heap) : List Value → List D → Prop
  | nil : RepTs W h [] []
  | cons {v : Value} {d : D} {vs : List Value} {ds : List D} : RepT W h v d → RepTs W h vs ds → RepTs W h (v :: vs) (d :: ds)
theorem RepTs.keep {W : List Addr} {h h' : Heap} {vs : List Value} {ds : List D} (x : RepTs W h vs ds) (k : ∀ b o, h.get? b = some o → h'.get? b = some o) : RepTs W h' vs ds := by
  induction x with
  | nil => exact .nil
  | cons a _ ih => exact .cons (a.keep k) ih
theorem RepTs.ext {W : List Addr} {h h' : Heap} {vs : List Value} {ds : List D} (x : RepTs W h vs ds) (k : Ext [] h h') : RepTs W h' vs ds := x.keep k.strict
theorem Reps.toT {W : List Addr} {h : Heap} {vs : List Value} {ds : List D} (x : Reps W h vs ds) : RepTs W h vs ds := by
  induction vs generalizing ds with
  | nil => cases x; exact .nil
  | cons v vs ih => cases x with | cons a r => exact .cons a.toT (ih r)

section
variable {X : Cx} {W : List Addr} {ρ : List (Str × Ent)}

/- several parts, kept -/
noncomputable def Evs (X : Cx) (W : List Addr) (ρ : List (Str × Ent)) (es : List Expr) (ds : List D) : Prop :=
  ∀ (pos : Pos) s, Ok X W ρ s → wpAny X.M X.A (spliced (backTo pos (starEach es X.env))) (fun vs s' => SExt [] s s' ∧ Reps W s'.heap vs ds) NoE s
noncomputable def EvTs (X : Cx) (W : List Addr) (ρ : List (Str × Ent)) (es : List Expr) (ds : List D) : Prop :=
  ∀ (pos : Pos) s, Ok X W ρ s → wpAny X.M X.A (spliced (backTo pos (starEach es X.env))) (fun vs s' => SExt [] s s' ∧ RepTs W s'.heap vs ds) NoE s
theorem evs_nil : Evs X W ρ [] [] := fun pos s hs => wpAny_items_nil ⟨.refl .., .nil⟩
theorem evs_cons {e : Expr} {es : List Expr} {d : D} {ds : List D} (h : Ev X W ρ .s e d) (h' : Evs X W ρ es ds) (he : starEach (e :: es) X.env = (false, eval e X.env) :: starEach es X.env := by rfl) : Evs X W ρ (e :: es) (d :: ds) := fun pos s hs =>
  wpAny_items_cons (wpAny_mono (h s hs) (fun v s₁ k => wpAny_mono (h' pos s₁ (hs.mono k.1)) (fun vs s₂ k' => ⟨k.1.trans k'.1, .cons (Rep.ext k.2 k'.1.ext) k'.2⟩) fun zz1 zz2 x => x) fun zz1 zz2 x => x) he
theorem evTs_nil : EvTs X W ρ [] [] := fun pos s hs => wpAny_items_nil ⟨.refl .., .nil⟩
theorem evTs_cons {l : Lv} {e : Expr} {es : List Expr} {d : D} {ds : List D} (h : Ev X W ρ l e d) (h' : EvTs X W ρ es ds) (he : starEach (e :: es) X.env = (false, eval e X.env) :: starEach es X.env := by rfl) : EvTs X W ρ (e :: es) (d :: ds) := fun pos s hs =>
  wpAny_items_cons (wpAny_mono (h s hs) (fun v s₁ k => wpAny_mono (h' pos s₁ (hs.mono k.1)) (fun vs s₂ k' => ⟨k.1.trans k'.1, .cons (k.2.toT.ext k'.1.ext) k'.2⟩) fun zz1 zz2 x => x) fun zz1 zz2 x => x) he

/- a new list -/
theorem new_list {s₀ s : Shared} {vs : List Value} {ds : List D} (hs : Ok X W ρ s₀) (k : SExt [] s₀ s) (r : Reps W s.heap vs ds) :
    SExt [] s₀ { s with heap := s.heap.push { cls := .type "list", data := .seq vs.toArray } } ∧
    Post .f W s₀.heap (.ref s.heap.objs.size) (s.heap.push { cls := .type "list", data := .seq vs.toArray }) (.list ds) := by
  have k' := k.trans (sext_push (T := []) s { cls := .type "list", data := .seq vs.toArray })
  have fr : s.heap.get? s.heap.objs.size = Option.none := get_size _
  refine ⟨k', .list ⟨_, Heap.get?_push_size _ rfl⟩ (fun hw => ?_) (r.keep fun b o e => Heap.get?_push_of_some _ e), fun a e => ?_⟩
  · obtain ⟨o, e⟩ := hs.wal _ hw
    have := k.ext.strict _ _ e
    rw [fr] at this; cases this
  · cases e
    exact k.ext.fresh fr
theorem ev_list {es : List Expr} {ds : List D} {pos : Pos} (h : Evs X W ρ es ds) (hz : ds.length ≤ 1000 := by first | decide | simp) : Ev X W ρ .f (.List es pos) (.list ds) := fun s hs => by
  refine wpAny_List (wpAny_mono (h pos s hs) (fun vs s₁ k => ⟨?_, new_list hs k.1 k.2⟩) fun zz1 zz2 x => x)
  rw [k.2.length, sizeLine_eq]; (first | lia | omega)
/- an item -/
noncomputable def itemAt {α : Type} (xs : List α) (k : Int) : Option α := if 0 ≤ k then xs[k.toNat]? else if -(xs.length : Int) ≤ k then xs[(k + xs.length).toNat]? else Option.none
theorem subscript_tail {e₁ e₂ : Expr} {s : Shared} {o i : Value} {T id : String} {Q : Value → Shared → Prop} (hT : s.TypeIs o T)
    (hl : typeLookup (.type T) "__getitem__" = pure (some (.builtin id))) (hg : wpAny X.M X.A (getItem o i) Q NoE s) (hs : ∃ ops, subscripted e₂ false o i = operate ops (getItem o i)) :
    wpAny X.M X.A (getitemInPython o >>= fun b => subscripted e₂ b o i >>= fun r => letTemporaryGo e₁ o r >>= fun zz1 => pure r) Q NoE s := by
  obtain ⟨ops, hs⟩ := hs
  exact tail_any hT hl hg hs
theorem subscripted_any (e₂ : Expr) (o i : Value) : ∃ ops, subscripted e₂ false o i = operate ops (getItem o i) := by
  unfold subscripted
  split
  · exact ⟨_, rfl⟩
  · rename_i h; cases h
  · exact ⟨_, rfl⟩
theorem getItem_item {s : Shared} {a : Addr} {vs : List Value} {ds : List D} {k : Int} {t : Tok} {d : D} (hl : s.heap.PlainList a vs.toArray) (r : Reps W s.heap vs ds) (hk : itemAt ds k = some d) (hz : ds.length ≤ 1000000) {Q : Value → Shared → Prop}
    (q : ∀ v, Rep W s.heap v d → Q v s) : wpAny X.M X.A (getItem (.ref a) (.int k t)) Q NoE s := by
  unfold itemAt at hk
  split at hk
  · rename_i h0
    obtain ⟨v, e, rv⟩ := r.get hk
    have hlt : k.toNat < ds.length := (List.getElem?_eq_some_iff.mp hk).1
    exact wpAny_getItem_list hl.isList h0 (by (first | lia | omega)) (by simpa using e) (q v rv)
  · split at hk
    · rename_i h0 h1
      obtain ⟨v, e, rv⟩ := r.get hk
      have hn := r.length
      refine wpAny_getItem_list_neg hl.isList (by (first | lia | omega)) ?_ (by (first | lia | omega)) ?_ (q v rv)
      · rw [List.size_toArray, hn]; exact h1
      · rw [List.size_toArray, hn]; simpa using e
    · cases hk
theorem ev_item {l₁ l₂ : Lv} {e₁ e₂ : Expr} {ds : List D} {k : Int} {d : D} {pos : Pos} (h₁ : Ev X W ρ l₁ e₁ (.list ds)) (h₂ : Ev X W ρ l₂ e₂ (.int k)) (hk : itemAt ds k = some d) (hz : ds.length ≤ 1000000) :
    Ev X W ρ .s (.Subscript e₁ e₂ pos) d := fun s hs => by
  rw [eval_Subscript]
  refine wpAny_bind (wpAny_mono (h₁ s hs) (fun o s₁ k₁ => wpAny_bind (wpAny_holding (wpAny_mono (h₂ s₁ (hs.mono k₁.1)) (fun i s₂ k₂ => wpAny_bind (wpAny_standAt ?_)) fun zz1 zz2 x => x))) fun zz1 zz2 x => x)
  obtain ⟨a, vs, rfl, hl, r⟩ := k₁.2.toT.ext k₂.1.ext
  obtain ⟨t, rfl⟩ := repT_int k₂.2.toT
  exact subscript_tail hl.isList.typeIs slot_list_getitem.lookup (getItem_item hl r hk hz fun v rv => ⟨k₁.1.trans k₂.1, rv⟩) (subscripted_any _ _ _)

/- slices -/
noncomputable def EvO (X : Cx) (W : List Addr) (ρ : List (Str × Ent)) (e : Option Expr) (k : Option Int) : Prop :=
  ∀ s, Ok X W ρ s → wpAny X.M X.A (evalPart e X.env) (fun v s' => SExt [] s s' ∧ IsPart v k) NoE s
theorem evO_none : EvO X W ρ Option.none Option.none := fun s hs => wpAny_evalPart_none ⟨.refl .., .none⟩
theorem evO_some {l : Lv} {e : Expr} {k : Int} (h : Ev X W ρ l e (.int k)) : EvO X W ρ (some e) (some k) := fun s hs =>
  wpAny_evalPart_some (wpAny_mono (h s hs) (fun v s' q => ⟨q.1, by obtain ⟨t, rfl⟩ := repT_int q.2.toT; exact .int _ _⟩) fun zz1 zz2 x => x)
noncomputable def sliceL {α : Type} (xs : List α) (lo hi st : Option Int) : List α :=
  (sliceRange (sliceBounds lo hi st xs.length).1 (sliceBounds lo hi st xs.length).2.1 (sliceBounds lo hi st xs.length).2.2).filterMap (xs[·]?)
theorem Reps.pick {h : Heap} {vs : List Value} {ds : List D} (r : Reps W h vs ds) (is : List Nat) : Reps W h (is.filterMap (vs[·]?)) (is.filterMap (ds[·]?)) := by
  induction is with
  | nil => exact .nil
  | cons i is ih =>
    rw [List.filterMap_cons, List.filterMap_cons]
    cases e : ds[i]? with
    | none =>
      have : vs[i]? = Option.none := by
        rw [List.getElem?_eq_none_iff] at e ⊢
        rw [r.length]; exact e
      rw [this]; exact ih
    | some d =>
      obtain ⟨v, e', rv⟩ := r.get e
      rw [e']; exact .cons rv ih
theorem ev_slice {l₁ : Lv} {e₁ : Expr} {lo hi st : Option Expr} {kl kh ks : Option Int} {ds : List D} {p pos : Pos} (h₁ : Ev X W ρ l₁ e₁ (.list ds)) (hl : EvO X W ρ lo kl) (hh : EvO X W ρ hi kh) (hst : EvO X W ρ st ks)
    (h0 : ks ≠ some 0) (hz : ds.length ≤ 1000000) : Ev X W ρ .f (.Subscript e₁ (.Slice lo hi st p) pos) (.list (sliceL ds kl kh ks)) := fun s hs => by
  rw [eval_Subscript]
  refine wpAny_bind (wpAny_mono (h₁ s hs) (fun o s₁ k₁ => wpAny_bind (wpAny_holding (wpAny_Slice (wpAny_mono (hl s₁ (hs.mono k₁.1)) (fun vl s₂ k₂ =>
    wpAny_mono (hh s₂ (hs.mono (k₁.1.trans k₂.1))) (fun vu s₃ k₃ => wpAny_mono (hst s₃ (hs.mono ((k₁.1.trans k₂.1).trans k₃.1))) (fun vs s₄ k₄ => wpAny_bind (wpAny_standAt ?_)) fun zz1 zz2 x => x) fun zz1 zz2 x => x) fun zz1 zz2 x => x)))) fun zz1 zz2 x => x)
  have kk := ((k₁.1.trans k₂.1).trans k₃.1).trans k₄.1
  have kp := kk.trans (sext_push (T := []) s₄ { cls := .type "slice", data := .fields #[vl, vu, vs] })
  obtain ⟨a, us, rfl, hls, r⟩ := k₁.2.toT.keep fun b o e => Heap.get?_push_of_some { cls := .type "slice", data := .fields #[vl, vu, vs] } ((((k₂.1.trans k₃.1).trans k₄.1).ext.strict) b o e)
  refine subscript_tail (s := { s₄ with heap := s₄.heap.push { cls := .type "slice", data := .fields #[vl, vu, vs] } }) hls.isList.typeIs slot_list_getitem.lookup ?_ (subscripted_any _ _ _)
  refine wpAny_getItem_list_slice hls.isList (Heap.IsSliceOf.new _ _ _ _) k₂.2 k₃.2 k₄.2 h0 ?_ (by rw [List.size_toArray, r.length, sizeLine_eq]; (first | lia | omega))
  have e : slicePick us.toArray kl kh ks = (sliceL us kl kh ks).toArray := by
    unfold slicePick sliceL
    simp
  rw [e]
  have e2 : Reps W (s₄.heap.push { cls := .type "slice", data := .fields #[vl, vu, vs] }) (sliceL us kl kh ks) (sliceL ds kl kh ks) := by
    unfold sliceL
    rw [r.length]
    exact r.pick _
  exact new_list hs kp e2
end

/- what slices pick -/
theorem sliceRange_one (a b : Int) (ha : 0 ≤ a) : sliceRange a b 1 = (List.range (b - a).toNat).map (fun k => a.toNat + k) := by
  unfold sliceRange
  simp only [show (1 : Int) > 0 from by decide, if_true]
  have : (if a < b then (b - a + 1 - 1) / 1 else 0).toNat = (b - a).toNat := by
    split
    · rw [Int.add_sub_cancel, Int.ediv_one]
    · next h => exact (Int.toNat_of_nonpos (Int.sub_nonpos_of_le (Int.not_lt.mp h))).symm
  rw [this]
  apply List.map_congr_left
  intro k _
  (first | lia | omega)
theorem pick_range {α : Type} (xs : List α) (a n : Nat) : ((List.range n).map (fun k => a + k)).filterMap (xs[·]?) = (xs.drop a).take n := by
  induction n with
  | zero => simp
  | succ n ih =>
    rw [List.range_succ, List.map_append, List.filterMap_append, ih, List.take_succ]
    congr 1
    simp only [List.map_cons, List.map_nil, List.filterMap_cons, List.filterMap_nil, List.getElem?_drop]
    cases xs[a + n]? <;> rfl
theorem toNat_clip (k : Int) (n : Nat) (hk : 0 ≤ k) : (max 0 (min k (n : Int))).toNat = min k.toNat n := by
  obtain ⟨m, rfl⟩ := Int.eq_ofNat_of_zero_le hk
  rcases Nat.le_total m n with h | h
  · rw [Int.min_eq_left (Int.ofNat_le.mpr h), Int.max_eq_right (Int.natCast_nonneg m)]
    exact (Nat.min_eq_left h).symm
  · rw [Int.min_eq_right (Int.ofNat_le.mpr h), Int.max_eq_right (Int.natCast_nonneg n)]
    exact (Nat.min_eq_right h).symm
theorem sliceL_to {α : Type} (xs : List α) (k : Int) (hk : 0 ≤ k) : sliceL xs Option.none (some k) Option.none = xs.take k.toNat := by
  unfold sliceL sliceBounds
  simp only [Option.getD_none, show (1 : Int) > 0 from by decide, if_true]
  rw [if_neg (Int.not_lt.mpr hk), sliceRange_one _ _ (Int.le_refl 0), pick_range]
  simp only [Int.toNat_zero, List.drop_zero, Int.sub_zero]
  rw [toNat_clip k _ hk, List.take_eq_take_iff]
  exact Nat.min_eq_left (Nat.min_le_right _ _)
end Mine



namespace Mine
open PySem PyProof.Rows

inductive Put : List (Str × Ent) → Str → Ent → List (Str × Ent) → Prop
  | here {ρ : List (Str × Ent)} {x : Str} {e₀ e : Ent} : e₀.rw = true → Put ((x, e₀) :: ρ) x e ((x, e) :: ρ)
  | there {ρ ρ' : List (Str × Ent)} {x : Str} {e : Ent} {p : Str × Ent} : Put ρ x e ρ' → Put (p :: ρ) x e (p :: ρ')
theorem Put.keys {ρ ρ' : List (Str × Ent)} {x : Str} {e : Ent} (h : Put ρ x e ρ') : ρ'.map (·.1) = ρ.map (·.1) := by
  induction h with
  | here _ => rfl
  | there _ ih => rw [List.map_cons, List.map_cons, ih]
theorem Put.mem {ρ ρ' : List (Str × Ent)} {x : Str} {e : Ent} (h : Put ρ x e ρ') : ∃ e₀, (x, e₀) ∈ ρ ∧ e₀.rw = true := by
  induction h with
  | here hr => exact ⟨_, .head _, hr⟩
  | there _ ih => obtain ⟨e₀, m, r⟩ := ih; exact ⟨e₀, .tail _ m, r⟩
theorem Put.cases {ρ ρ' : List (Str × Ent)} {x : Str} {e : Ent} (h : Put ρ x e ρ') (nd : (ρ.map (·.1)).Nodup) : ∀ q ∈ ρ', q = (x, e) ∨ (q ∈ ρ ∧ q.1 ≠ x) := by
  induction h with
  | here _ =>
    intro q hq
    rw [List.map_cons, List.nodup_cons] at nd
    rcases List.mem_cons.mp hq with rfl | hq
    · exact .inl rfl
    · exact .inr ⟨.tail _ hq, fun e => nd.1 (by have := List.mem_map_of_mem (f := (·.1)) hq; rw [e] at this; exact this)⟩
  | @there ρ ρ' x e p h ih =>
    intro q hq
    rw [List.map_cons, List.nodup_cons] at nd
    rcases List.mem_cons.mp hq with rfl | hq
    · refine .inr ⟨.head _, fun e' => ?_⟩
      obtain ⟨e₀, m, _⟩ := h.mem
      exact nd.1 (by have := List.mem_map_of_mem (f := (·.1)) m; rw [← e'] at this; exact this)
    · rcases ih nd.2 q hq with e' | ⟨m, n⟩
      · exact .inl e'
      · exact .inr ⟨.tail _ m, n⟩

/- objects that a statement must leave -/
noncomputable def Fixed (o : Obj) : Prop := (∃ vs, o.data = .fields vs) ∨ (∃ xs n, o.data = .seq xs n)
inductive Pr where
  | obj (a : Addr) (o : Obj)
  | reps (vs : List Value) (ds : List D)
noncomputable def PrOk (W : List Addr) (h : Heap) : Pr → Prop
  | .obj a o => h.get? a = some o ∧ a ∉ W ∧ Fixed o
  | .reps vs ds => Reps W h vs ds
noncomputable def Prot (P : List Pr) (W : List Addr) (h : Heap) : Prop := ∀ p ∈ P, PrOk W h p
theorem Prot.keep {P : List Pr} {W : List Addr} {h h' : Heap} (x : Prot P W h) (k : ∀ b o, h.get? b = some o → h'.get? b = some o) : Prot P W h' :=
  fun p hp => by
    have y := x p hp
    cases p with
    | obj a o => exact ⟨k _ _ y.1, y.2⟩
    | reps vs ds => exact Reps.keep y k

structure OkP (X : Cx) (W : List Addr) (P : List Pr) (ρ : List (Str × Ent)) (s : Shared) : Prop where
  ok : Ok X W ρ s
  prot : Prot P W s.heap
theorem OkP.mono {X : Cx} {W : List Addr} {P : List Pr} {ρ : List (Str × Ent)} {s s' : Shared} (x : OkP X W P ρ s) (k : SExt [] s s') : OkP X W P ρ s' := ⟨x.ok.mono k, x.prot.keep k.ext.strict⟩

noncomputable def Sub (ρ' ρ : List (Str × Ent)) : Prop := (∀ p ∈ ρ', p ∈ ρ) ∧ (ρ'.map (·.1)).Nodup
/- forget one entry -/
theorem Ok.forget {X : Cx} {W : List Addr} {ρ ρ' : List (Str × Ent)} {s : Shared} (x : Ok X W ρ s) (h : ∀ p ∈ ρ', p ∈ ρ ∨ (p.2 = .un ∧ ∃ e, (p.1, e) ∈ ρ ∧ e.rw = true)) (nd : (ρ'.map (·.1)).Nodup) : Ok X W ρ' s := by
  refine ⟨x.ext, nd, fun p hp => ?_, fun p hp q hq a ns b ms e1 e2 => ?_, x.wal⟩
  · rcases h p hp with m | ⟨e, e', m, r⟩
    · exact x.ent p m
    · rcases x.ent _ m with ⟨v, z, _⟩ | ⟨⟨ov, a, b⟩, c⟩
      · have z' : e' = .gl v := z
        rw [z'] at r; cases r
      · exact .inr ⟨⟨ov, a, by rw [e]; trivial⟩, fun zz1 => c r⟩
  · rcases h p hp with m | ⟨e, _⟩
    · rcases h q hq with m' | ⟨e', _⟩
      · exact x.own p m q m' a ns b ms e1 e2
      · rw [e'] at e2; cases e2
    · rw [e] at e1; cases e1

/- the slot of a name is written: what stays -/
theorem EntOk.extBut {hE : Heap} {W : List Addr} {h h' : Heap} {ov : Option Value} {e : Ent} {a : Addr} (x : EntOk hE W h ov e) (k : Heap.ExtBut a h h') (nd : NoData h a) : EntOk hE W h' ov e := by
  cases e with
  | un => trivial
  | val _ d => obtain ⟨v, e, r⟩ := x; exact ⟨v, e, r.extBut k (.inr nd)⟩
  | tmp _ d =>
    obtain ⟨v, e, r, ex⟩ := x
    refine ⟨v, e, ?_, ex⟩
    cases d with
    | list ds =>
      obtain ⟨b, vs, rfl, hl, hr⟩ := r
      refine ⟨b, vs, rfl, hl.extBut k fun z => ?_, hr.extBut k (.inr nd)⟩
      subst z
      obtain ⟨o, ho, _, n, hd⟩ := hl.isList
      exact nd o ho (.inl ⟨_, _, hd⟩)
    | _ => exact Rep.extBut r k (.inr nd)
  | ownD b ns =>
    obtain ⟨e, w, f, vs, hl, r⟩ := x
    refine ⟨e, w, f, vs, hl.extBut k fun z => ?_, r.extBut k (.inr nd)⟩
    subst z
    obtain ⟨o, ho, _, n, hd⟩ := hl.isList
    exact nd o ho (.inl ⟨_, _, hd⟩)
  | gl v => cases x

theorem NoData.ns {h : Heap} {a : Addr} {m : Str → Option Value} (n : h.Ns a m) : NoData h a := by
  obtain ⟨o, es, ep, ho, hd, _⟩ := n
  intro o' ho' z
  rw [ho] at ho'; cases ho'
  rcases z with ⟨xs, n, z⟩ | z <;> rw [hd] at z <;> cases z
theorem NoData.cell {h : Heap} {a : Addr} {v : Option Value} (n : h.IsCell a v) : NoData h a := by
  obtain ⟨o, ho, hd⟩ := n
  intro o' ho' z
  rw [ho] at ho'; cases ho'
  rcases z with ⟨xs, n, z⟩ | z <;> rw [hd] at z <;> cases z
theorem NoData.fields {h : Heap} {a : Addr} {o : Obj} {vs : Array Value} (ho : h.get? a = some o) (hd : o.data = .fields vs) : NoData h a := by
  intro o' ho' z
  rw [ho] at ho'; cases ho'
  rcases z with ⟨xs, n, z⟩ | z <;> rw [hd] at z <;> cases z
theorem Prot.extBut {P : List Pr} {W : List Addr} {h h' : Heap} {a : Addr} (x : Prot P W h) (k : Heap.ExtBut a h h') (n : ∀ o, h.get? a = some o → ¬ Fixed o) (nd : NoData h a) : Prot P W h' := fun p hp => by
    have y := x p hp
    cases p with
    | obj b o => exact ⟨k _ _ (fun z => n o (z ▸ y.1) y.2.2) y.1, y.2⟩
    | reps vs ds => exact Reps.extBut y k (.inr nd)
theorem Prot.extButW {P : List Pr} {W : List Addr} {h h' : Heap} {a : Addr} (x : Prot P W h) (k : Heap.ExtBut a h h') (n : a ∈ W) : Prot P W h' := fun p hp => by
    have y := x p hp
    cases p with
    | obj b o => exact ⟨k _ _ (fun z => y.2.1 (z ▸ n)) y.1, y.2⟩
    | reps vs ds => exact Reps.extBut y k (.inl n)
theorem notFixed_ns {h : Heap} {a : Addr} {m : Str → Option Value} (n : h.Ns a m) : ∀ o, h.get? a = some o → ¬ Fixed o := by
  obtain ⟨o, es, ep, ho, hd, _⟩ := n
  intro o' ho' z
  rw [ho] at ho'; cases ho'
  rcases z with ⟨xs, z⟩ | ⟨xs, n, z⟩ <;> rw [hd] at z <;> cases z
theorem notFixed_cell {h : Heap} {a : Addr} {v : Option Value} (n : h.IsCell a v) : ∀ o, h.get? a = some o → ¬ Fixed o := by
  obtain ⟨o, ho, hd⟩ := n
  intro o' ho' z
  rw [ho] at ho'; cases ho'
  rcases z with ⟨xs, z⟩ | ⟨xs, n, z⟩ <;> rw [hd] at z <;> cases z
theorem ns_ne_cell {h : Heap} {a c : Addr} {m : Str → Option Value} {v : Option Value} (n : h.Ns a m) (k : h.IsCell c v) : a ≠ c := by
  intro e; subst e
  obtain ⟨o, es, ep, ho, hd, _⟩ := n
  obtain ⟨o', ho', hd'⟩ := k
  rw [ho] at ho'; cases ho'
  rw [hd] at hd'; cases hd'

theorem ns_unique {h : Heap} {a : Addr} {m m' : Str → Option Value} (n : h.Ns a m) (n' : h.Ns a m') : m = m' := by
  obtain ⟨o, es, ep, ho, hd, _, hm⟩ := n
  obtain ⟨o', es', ep', ho', hd', _, hm'⟩ := n'
  rw [ho] at ho'; cases ho'
  rw [hd] at hd'; cases hd'
  funext x
  rw [← hm, ← hm']

/- the address of a name's slot -/
theorem store1 {X : Cx} {A : Around} {s : Shared} {x : Str} {v : Value} {ov : Option Value} (F : Fine X) (h : Holds1 s.heap X.env x ov) (fr : Fresh1 X.T X.sE.heap X.env x) {Q : Unit → Shared → Prop}
    (q : ∀ a h' tk, ((X.env.kindOf x = some .local ∧ a = X.env.locals) ∨ ∃ ov, s.heap.IsCell a ov) → (X.sE.heap.get? a = Option.none ∨ a ∈ X.T) → Heap.SameBut a s.heap h' → NoData s.heap a → (∀ o, s.heap.get? a = some o → ¬ Fixed o) → (∃ o, h'.get? a = some o) → Holds1 h' X.env x (some v) →
      (∀ y ov', y ≠ x → Holds1 s.heap X.env y ov' → Holds1 h' X.env y ov') → Q () { s with heap := h', toks := tk }) :
    wpAny X.M A (storeName X.env x v) Q NoE s := by
  rcases h with ⟨a, m, n, e⟩ | ⟨a | a, c, e, n⟩
  · refine wpAny_storeName_local a n (fun h' n' hs => ?_) (by rw [F.kind]; rfl)
    refine q X.env.locals h' _ (.inl ⟨a, rfl⟩) (fr.1 a) hs (.ns n) (notFixed_ns n) (let ⟨o, _, _, ho, _⟩ := n'; ⟨o, ho⟩) (.inl ⟨a, _, n', by simp⟩) fun y ov' hy hh => ?_
    rcases hh with ⟨b, m', n'', e'⟩ | ⟨b, c, e', n''⟩
    · refine .inl ⟨b, _, n', ?_⟩
      rw [ns_unique n n'', ← e']
      simp [hy]
    · exact .inr ⟨b, c, e', n''.sameBut hs (ns_ne_cell n n'').symm⟩
  · refine wpAny_storeName_cell F.kind a e n fun h' n' hs => ?_
    have tk : ({ s with heap := h' } : Shared) = { s with heap := h', toks := s.toks } := rfl
    rw [tk]
    refine q c h' _ (.inr ⟨_, n⟩) (fr.2.2 c a e) hs (.cell n) (notFixed_cell n) (let ⟨o, ho, _⟩ := n'; ⟨o, ho⟩) (.inr ⟨.inl a, c, e, n'⟩) fun y ov' hy hh => ?_
    rcases hh with ⟨b, m', n'', e'⟩ | ⟨b, c', e', n''⟩
    · exact .inl ⟨b, m', n''.sameBut hs (ns_ne_cell n'' n), e'⟩
    · exact .inr ⟨b, c', e', n''.sameBut hs fun z => hy (F.cells _ _ c (z ▸ e') e)⟩
  · exact absurd a fr.2.1

/- only a slot was written -/
noncomputable def Moved (h h' : Heap) : Prop := ∃ a, Heap.ExtBut a h h' ∧ NoData h a
theorem Rep.moved {W : List Addr} {h h' : Heap} {v : Value} {d : D} (x : Rep W h v d) (m : Moved h h') : Rep W h' v d := let ⟨a, k, n⟩ := m; x.extBut k (.inr n)
theorem RepT.moved {W : List Addr} {h h' : Heap} {v : Value} {d : D} (x : RepT W h v d) (m : Moved h h') : RepT W h' v d := by
  obtain ⟨a, k, nd⟩ := m
  cases d with
  | list ds =>
    obtain ⟨b, vs, rfl, hl, hr⟩ := x
    refine ⟨b, vs, rfl, hl.extBut k fun z => ?_, hr.extBut k (.inr nd)⟩
    subst z
    obtain ⟨o, ho, _, n, hd⟩ := hl.isList
    exact nd o ho (.inl ⟨_, _, hd⟩)
  | _ => exact Rep.extBut x k (.inr nd)

/- data stay -/
noncomputable def Mv (h h' : Heap) : Prop := ∀ W v d, RepT W h v d → RepT W h' v d
theorem Mv.refl (h : Heap) : Mv h h := fun zz1 zz2 zz3 x => x
theorem Mv.trans {h h' h'' : Heap} (x : Mv h h') (y : Mv h' h'') : Mv h h'' := fun W v d r => y W v d (x W v d r)
theorem Moved.mv {h h' : Heap} (m : Moved h h') : Mv h h' := fun W v d r => r.moved m
theorem Ext.mv {h h' : Heap} (m : Ext [] h h') : Mv h h' := fun W v d r => r.ext m

theorem store_ok2 {X : Cx} {A : Around} {W : List Addr} {P : List Pr} {ρ ρ' : List (Str × Ent)} {s : Shared} {x : Str} {v : Value} {e : Ent} (F : Fine X) (hs : OkP X W P ρ s) (hp : Put ρ x e ρ')
    (he : EntOk X.sE.heap W s.heap (some v) e) (hown : ∀ a ns, e = .ownD a ns → ∀ q ∈ ρ, ∀ b ms, q.2 = .ownD b ms → b ≠ a) {Q : Unit → Shared → Prop}
    (q : ∀ s', OkP X W P ρ' s' → Moved s.heap s'.heap → (∀ C m, s.heap.Ns C m → (X.env.kindOf x = some .local → C ≠ X.env.locals) → s'.heap.Ns C m) → Q () s') : wpAny X.M A (storeName X.env x v) Q NoE s := by
  obtain ⟨e₀, m, r⟩ := hp.mem
  obtain ⟨v', z, _⟩ | ⟨⟨ov, h1, _⟩, fr⟩ := hs.ok.ent _ m
  · have z' : e₀ = .gl v' := z
    rw [z'] at r; cases r
  refine store1 F h1 (fr r) fun a h' tk hsl hfr hsb nd nf hth hx hoth => q _ ?_ ⟨a, hsb.extBut, nd⟩ (fun C m n hC => n.sameBut hsb (by
    rcases hsl with ⟨z', z⟩ | ⟨ov, z⟩
    · rw [z]; exact hC z'
    · exact ns_ne_cell n z))
  refine ⟨⟨⟨hs.ok.ext.ext.slot hfr hsb.extBut hth, hs.ok.ext.gens, hs.ok.ext.os⟩, by rw [hp.keys]; exact hs.ok.nd, fun p hp' => ?_, fun p hp' p₂ hp₂ a₁ ns b ms e1 e2 hne => ?_, fun b hb => ?_⟩, ?_⟩
  · rcases hp.cases hs.ok.nd p hp' with rfl | ⟨m', hne⟩
    · exact .inr ⟨⟨some v, hx, he.extBut hsb.extBut nd⟩, fun zz1 => fr r⟩
    · obtain z | ⟨⟨ov', h2, h3⟩, fr'⟩ := hs.ok.ent _ m'
      · exact .inl z
      · exact .inr ⟨⟨ov', hoth _ _ hne h2, h3.extBut hsb.extBut nd⟩, fr'⟩
  · rcases hp.cases hs.ok.nd p hp' with rfl | ⟨m', hne'⟩
    · rcases hp.cases hs.ok.nd p₂ hp₂ with rfl | ⟨m₂, _⟩
      · exact absurd rfl hne
      · exact (hown a₁ ns e1 p₂ m₂ b ms e2).symm
    · rcases hp.cases hs.ok.nd p₂ hp₂ with rfl | ⟨m₂, _⟩
      · exact hown b ms e2 p m' a₁ ns e1
      · exact hs.ok.own p m' p₂ m₂ a₁ ns b ms e1 e2 hne
  · obtain ⟨o, ho⟩ := hs.ok.wal b hb
    by_cases hba : b = a
    · subst hba; exact hth
    · exact ⟨o, hsb.extBut b o hba ho⟩
  · exact hs.prot.extBut hsb.extBut nf nd

theorem store_ok {X : Cx} {A : Around} {W : List Addr} {P : List Pr} {ρ ρ' : List (Str × Ent)} {s : Shared} {x : Str} {v : Value} {e : Ent} (F : Fine X) (hs : OkP X W P ρ s) (hp : Put ρ x e ρ')
    (he : EntOk X.sE.heap W s.heap (some v) e) (hown : ∀ a ns, e = .ownD a ns → ∀ q ∈ ρ, ∀ b ms, q.2 = .ownD b ms → b ≠ a) {Q : Unit → Shared → Prop}
    (q : ∀ s', OkP X W P ρ' s' → Moved s.heap s'.heap → Q () s') : wpAny X.M A (storeName X.env x v) Q NoE s := store_ok2 F hs hp he hown fun s' a b zz1 => q s' a b
theorem store_val {X : Cx} {A : Around} {W : List Addr} {P : List Pr} {ρ ρ' : List (Str × Ent)} {s : Shared} {x : Str} {v : Value} {d : D} (F : Fine X) (hs : OkP X W P ρ s) (hp : Put ρ x (.val true d) ρ')
    (he : Rep W s.heap v d) {Q : Unit → Shared → Prop} (q : ∀ s', OkP X W P ρ' s' → Moved s.heap s'.heap → Q () s') : wpAny X.M A (storeName X.env x v) Q NoE s :=
  store_ok F hs hp ⟨v, rfl, he⟩ (fun zz1 zz2 e => by cases e) q
theorem store_tmp {X : Cx} {A : Around} {W : List Addr} {P : List Pr} {ρ ρ' : List (Str × Ent)} {s : Shared} {x : Str} {v : Value} {d : D} (F : Fine X) (hs : OkP X W P ρ s) (hp : Put ρ x (.tmp true d) ρ')
    (he : RepT W s.heap v d) (ex : ∀ b, v = .ref b → ∃ o, X.sE.heap.get? b = some o) {Q : Unit → Shared → Prop} (q : ∀ s', OkP X W P ρ' s' → Moved s.heap s'.heap → Q () s') : wpAny X.M A (storeName X.env x v) Q NoE s :=
  store_ok F hs hp ⟨v, rfl, he, ex⟩ (fun zz1 zz2 e => by cases e) q
end Mine



namespace Mine
open PySem PyProof.Rows

theorem cellsFrom_app : ∀ (names : List (Str × NameKind)) (n : Nat) (acc : List (Str × Addr)), cellsFrom n names acc = cellsFrom n names [] ++ acc
  | [], _, _ => rfl
  | (x, k) :: r, n, acc => by
    unfold cellsFrom
    split
    · rw [cellsFrom_app r (n + 1) ((x, n) :: acc), cellsFrom_app r (n + 1) [(x, n)]]; simp
    · exact cellsFrom_app r n acc
theorem cellsFrom_keys : ∀ (names : List (Str × NameKind)) (n : Nat) (x : Str) (c : Addr), (x, c) ∈ cellsFrom n names [] → (x, NameKind.cell) ∈ names ∧ n ≤ c
  | [], _, _, _, h => by cases h
  | (y, k) :: r, n, x, c, h => by
    unfold cellsFrom at h
    split at h
    · rename_i hk
      rw [cellsFrom_app, List.mem_append] at h
      rcases h with h | h
      · have := cellsFrom_keys r (n + 1) x c h
        exact ⟨.tail _ this.1, by (first | lia | omega)⟩
      · simp at h
        obtain ⟨rfl, rfl⟩ := h
        have : k = .cell := by simpa using hk
        subst this
        exact ⟨.head _, Nat.le_refl _⟩
    · have := cellsFrom_keys r n x c h
      exact ⟨.tail _ this.1, this.2⟩
theorem cellsFrom_has : ∀ (names : List (Str × NameKind)) (n : Nat) (x : Str), (x, NameKind.cell) ∈ names → ∃ c, (x, c) ∈ cellsFrom n names []
  | [], _, _, h => by cases h
  | (y, k) :: r, n, x, h => by
    unfold cellsFrom
    rcases List.mem_cons.mp h with e | h
    · cases e
      simp only [beq_self_eq_true, if_true]
      rw [cellsFrom_app]
      exact ⟨n, List.mem_append.mpr (.inr (.head _))⟩
    · split
      · obtain ⟨c, hc⟩ := cellsFrom_has r (n + 1) x h
        rw [cellsFrom_app]
        exact ⟨c, List.mem_append.mpr (.inl hc)⟩
      · exact cellsFrom_has r n x h
theorem lookup_of_mem {α : Type} : ∀ {l : List (Str × α)} {x : Str} {c : α}, (x, c) ∈ l → ∃ c', l.lookup x = some c'
  | (y, d) :: l, x, c, h => by
    rw [List.lookup_cons]
    cases e : x == y with
    | true => exact ⟨d, rfl⟩
    | false =>
      rcases List.mem_cons.mp h with z | h
      · cases z; simp at e
      · exact lookup_of_mem h
theorem lookup_none {α : Type} : ∀ {l : List (Str × α)} {x : Str}, (∀ c, (x, c) ∉ l) → l.lookup x = Option.none
  | [], _, _ => rfl
  | (y, d) :: l, x, h => by
    rw [List.lookup_cons]
    cases e : x == y with
    | true =>
      have : x = y := by simpa using e
      subst this
      exact absurd (.head _) (h d)
    | false => exact lookup_none fun c hc => h c (.tail _ hc)
theorem nodup_lookup {α : Type} : ∀ {l : List (Str × α)} {x : Str} {c : α}, (l.map (·.1)).Nodup → (x, c) ∈ l → l.lookup x = some c
  | (y, d) :: l, x, c, nd, h => by
    rw [List.map_cons, List.nodup_cons] at nd
    rw [List.lookup_cons]
    rcases List.mem_cons.mp h with z | h
    · cases z; simp
    · have : x ≠ y := fun e => nd.1 (by have := List.mem_map_of_mem (f := (·.1)) h; rw [e] at this; exact this)
      have e : (x == y) = false := by simpa using this
      rw [e]
      exact nodup_lookup nd.2 h
theorem nodup_unique {α : Type} {l : List (Str × α)} {x : Str} {c c' : α} (nd : (l.map (·.1)).Nodup) (h : (x, c) ∈ l) (h' : (x, c') ∈ l) : c = c' := by
  have a := nodup_lookup nd h
  rw [nodup_lookup nd h'] at a
  cases a; rfl

/- the heap behind a new frame -/
structure Laid1 (h : Heap) (names : List (Str × NameKind)) (closure : List (Str × Addr)) (h' : Heap) (L : Addr) (cells : List (Str × Addr)) : Prop where
  keep : ∀ b o, h.get? b = some o → h'.get? b = some o
  fresh : h.get? L = Option.none
  ns : h'.Ns L fun zz1 => Option.none
  cell : ∀ x, (x, NameKind.cell) ∈ names → ∃ c, cells.lookup x = some c ∧ h'.IsCell c Option.none ∧ h.get? c = Option.none
  free : ∀ x, (x, NameKind.free) ∈ names → cells.lookup x = closure.lookup x
  inj : ∀ x y c, cells.lookup x = some c → cells.lookup y = some c → x = y

theorem laid1 {h : Heap} {names : List (Str × NameKind)} {closure : List (Str × Addr)} (nd : (names.map (·.1)).Nodup) (cls : Value)
    (hin : ∀ x y c, closure.lookup x = some c → closure.lookup y = some c → x = y) (hal : ∀ x c, closure.lookup x = some c → ∃ o, h.get? c = some o) :
    Laid1 h names closure (pushCells (h.push { cls := cls, data := .dict #[] }) names) h.objs.size (cellsFrom (h.objs.size + 1) names closure) := by
  have ok := cellsFrom_ok names (h.push { cls := cls, data := .dict #[] }) (h.objs.size + 1) [] ⟨fun zz1 zz2 hm => (nomatch hm), List.Pairwise.nil⟩ (by rw [Heap.size_push]; exact Nat.le_refl _)
  rw [Heap.size_push] at ok
  have app := cellsFrom_app names (h.objs.size + 1) closure
  refine ⟨fun b o e => pushCells_keeps _ _ b o (Heap.get?_push_of_some _ e), get_size _, (Heap.Ns.new h cls).keeps (pushCells_keeps _ _), fun x hx => ?_, fun x hx => ?_, fun x y c hx hy => ?_⟩
  · obtain ⟨c, hc⟩ := cellsFrom_has names (h.objs.size + 1) x hx
    obtain ⟨c', hl⟩ := lookup_of_mem hc
    have hm := mem_of_lookup hl
    refine ⟨c', by rw [app, List.lookup_append, hl]; rfl, (ok.empty x c' hm).1, ?_⟩
    have := (ok.empty x c' hm).2
    cases q : h.get? c' with
    | none => rfl
    | some o => exact absurd (Nat.lt_of_lt_of_le (Heap.lt_size q) (Nat.le_of_succ_le this)) (Nat.lt_irrefl _)
  · rw [app, List.lookup_append, lookup_none fun c hc => ?_]
    · rfl
    · have := (cellsFrom_keys _ _ _ _ hc).1
      have := nodup_unique nd hx this
      cases this
  · rw [app, List.lookup_append] at hx hy
    have low : ∀ z c, closure.lookup z = some c → c < h.objs.size := fun z c e => by obtain ⟨o, ho⟩ := hal z c e; exact Heap.lt_size ho
    have hi : ∀ z c, (cellsFrom (h.objs.size + 1) names []).lookup z = some c → h.objs.size < c := fun z c e => (ok.empty z c (mem_of_lookup e)).2
    cases ex : (cellsFrom (h.objs.size + 1) names []).lookup x with
    | some c₁ =>
      rw [ex] at hx; cases hx
      cases ey : (cellsFrom (h.objs.size + 1) names []).lookup y with
      | some c₂ =>
        rw [ey] at hy; cases hy
        exact name_of_addr ok.apart (mem_of_lookup ex) (mem_of_lookup ey)
      | none =>
        rw [ey] at hy
        have a := low y c hy
        have b := hi x c ex
        exact absurd (Nat.lt_trans a b) (Nat.lt_irrefl _)
    | none =>
      rw [ex] at hx
      cases ey : (cellsFrom (h.objs.size + 1) names []).lookup y with
      | some c₂ =>
        rw [ey] at hy; cases hy
        have a := low x c hx
        have b := hi y c ey
        exact absurd (Nat.lt_trans a b) (Nat.lt_irrefl _)
      | none =>
        rw [ey] at hy
        exact hin x y c hx hy

/- which entries a new frame has -/
inductive LayOf (B : Base) (ρp : List (Str × Ent)) : List (Str × NameKind) → List (Str × Ent) → Prop
  | nil : LayOf B ρp [] []
  | loc {x : Str} {ns : List (Str × NameKind)} {ρ : List (Str × Ent)} : LayOf B ρp ns ρ → LayOf B ρp ((x, .local) :: ns) ((x, .un) :: ρ)
  | cell {x : Str} {ns : List (Str × NameKind)} {ρ : List (Str × Ent)} : LayOf B ρp ns ρ → LayOf B ρp ((x, .cell) :: ns) ((x, .un) :: ρ)
  | free {x : Str} {e : Ent} {ns : List (Str × NameKind)} {ρ : List (Str × Ent)} : (x, e) ∈ ρp → e.known = true → LayOf B ρp ns ρ → LayOf B ρp ((x, .free) :: ns) ((x, e.ro) :: ρ)
  | glob {x : Str} {v : Value} {ns : List (Str × NameKind)} {ρ : List (Str × Ent)} : GlobIs B x v → LayOf B ρp ns ρ → LayOf B ρp ((x, .globalImplicit) :: ns) ((x, .gl v) :: ρ)
theorem LayOf.keys {B : Base} {ρp : List (Str × Ent)} {ns : List (Str × NameKind)} {ρ : List (Str × Ent)} (h : LayOf B ρp ns ρ) : (ρ.map (·.1)).Sublist (ns.map (·.1)) := by
  induction h with
  | nil => exact .slnil
  | loc _ ih => exact .cons_cons _ ih
  | cell _ ih => exact .cons_cons _ ih
  | free _ _ _ ih => exact .cons_cons _ ih
  | glob _ _ ih => exact .cons_cons _ ih
theorem LayOf.cases {B : Base} {ρp : List (Str × Ent)} {ns : List (Str × NameKind)} {ρ : List (Str × Ent)} (h : LayOf B ρp ns ρ) : ∀ p ∈ ρ, (p.2 = .un ∧ ((p.1, NameKind.local) ∈ ns ∨ (p.1, NameKind.cell) ∈ ns)) ∨ ((p.1, NameKind.free) ∈ ns ∧ ∃ e, (p.1, e) ∈ ρp ∧ e.known = true ∧ p.2 = e.ro) ∨ ((p.1, NameKind.globalImplicit) ∈ ns ∧ ∃ v, p.2 = .gl v ∧ GlobIs B p.1 v) := by
  induction h with
  | nil => intro p hp; cases hp
  | loc _ ih =>
    intro p hp
    rcases List.mem_cons.mp hp with rfl | hp
    · exact .inl ⟨rfl, .inl (.head _)⟩
    · rcases ih p hp with ⟨a, b | b⟩ | ⟨a, b⟩ | ⟨a, b⟩
      · exact .inl ⟨a, .inl (.tail _ b)⟩
      · exact .inl ⟨a, .inr (.tail _ b)⟩
      · exact .inr (.inl ⟨.tail _ a, b⟩)
      · exact .inr (.inr ⟨.tail _ a, b⟩)
  | cell _ ih =>
    intro p hp
    rcases List.mem_cons.mp hp with rfl | hp
    · exact .inl ⟨rfl, .inr (.head _)⟩
    · rcases ih p hp with ⟨a, b | b⟩ | ⟨a, b⟩ | ⟨a, b⟩
      · exact .inl ⟨a, .inl (.tail _ b)⟩
      · exact .inl ⟨a, .inr (.tail _ b)⟩
      · exact .inr (.inl ⟨.tail _ a, b⟩)
      · exact .inr (.inr ⟨.tail _ a, b⟩)
  | free hm hkn _ ih =>
    intro p hp
    rcases List.mem_cons.mp hp with rfl | hp
    · exact .inr (.inl ⟨.head _, _, hm, hkn, rfl⟩)
    · rcases ih p hp with ⟨a, b | b⟩ | ⟨a, b⟩ | ⟨a, b⟩
      · exact .inl ⟨a, .inl (.tail _ b)⟩
      · exact .inl ⟨a, .inr (.tail _ b)⟩
      · exact .inr (.inl ⟨.tail _ a, b⟩)
      · exact .inr (.inr ⟨.tail _ a, b⟩)
  | glob hg _ ih =>
    intro p hp
    rcases List.mem_cons.mp hp with rfl | hp
    · exact .inr (.inr ⟨.head _, _, rfl, hg⟩)
    · rcases ih p hp with ⟨a, b | b⟩ | ⟨a, b⟩ | ⟨a, b⟩
      · exact .inl ⟨a, .inl (.tail _ b)⟩
      · exact .inl ⟨a, .inr (.tail _ b)⟩
      · exact .inr (.inl ⟨.tail _ a, b⟩)
      · exact .inr (.inr ⟨.tail _ a, b⟩)

theorem LayOf.loc_mem {B : Base} {ρp : List (Str × Ent)} {ns : List (Str × NameKind)} {ρ : List (Str × Ent)} (h : LayOf B ρp ns ρ) : ∀ x, (x, NameKind.local) ∈ ns → (x, Ent.un) ∈ ρ := by
  induction h with
  | nil => intro x hx; cases hx
  | loc _ ih =>
    intro x hx
    rcases List.mem_cons.mp hx with e | hx
    · cases e; exact .head _
    · exact .tail _ (ih x hx)
  | cell _ ih =>
    intro x hx
    rcases List.mem_cons.mp hx with e | hx
    · cases e
    · exact .tail _ (ih x hx)
  | free _ _ _ ih =>
    intro x hx
    rcases List.mem_cons.mp hx with e | hx
    · cases e
    · exact .tail _ (ih x hx)
  | glob _ _ ih =>
    intro x hx
    rcases List.mem_cons.mp hx with e | hx
    · cases e
    · exact .tail _ (ih x hx)
theorem LayOf.free_mem {B : Base} {ρp : List (Str × Ent)} {ns : List (Str × NameKind)} {ρ : List (Str × Ent)} (h : LayOf B ρp ns ρ) : ∀ x, (x, NameKind.free) ∈ ns → ∃ e, (x, e) ∈ ρp ∧ e.known = true := by
  induction h with
  | nil => intro x hx; cases hx
  | loc _ ih =>
    intro x hx
    rcases List.mem_cons.mp hx with e | hx
    · cases e
    · exact ih x hx
  | cell _ ih =>
    intro x hx
    rcases List.mem_cons.mp hx with e | hx
    · cases e
    · exact ih x hx
  | free hm hk _ ih =>
    intro x hx
    rcases List.mem_cons.mp hx with e | hx
    · cases e; exact ⟨_, hm, hk⟩
    · exact ih x hx
  | glob _ _ ih =>
    intro x hx
    rcases List.mem_cons.mp hx with e | hx
    · cases e
    · exact ih x hx
/- names whose cells a block within may take -/
noncomputable def closable (ns : List (Str × NameKind)) : List Str := ns.filterMap fun p => match p.2 with | .cell => some p.1 | .free => some p.1 | _ => Option.none
theorem closable_mem {ns : List (Str × NameKind)} {x : Str} (h : x ∈ closable ns) : (x, NameKind.cell) ∈ ns ∨ (x, NameKind.free) ∈ ns := by
  unfold closable at h
  rw [List.mem_filterMap] at h
  obtain ⟨⟨y, k⟩, hm, e⟩ := h
  cases k <;> simp at e
  · subst e; exact .inl hm
  · subst e; exact .inr hm
theorem Ent.ro_rw (e : Ent) : e.ro.rw = false := by cases e <;> rfl
theorem Ent.ro_own (e : Ent) (a : Addr) (ns : List D) : e.ro ≠ .ownD a ns := by cases e <;> intro h <;> cases h

/- a new frame is in order -/
theorem ok_new {X : Cx} {W : List Addr} {P : List Pr} {names : List (Str × NameKind)} {closure : List (Str × Addr)} {ρp ρ : List (Str × Ent)} {s₃ : Shared} {h' : Heap} {tk : Nat} {L : Addr} {cells : List (Str × Addr)}
    (k : SExt [] X.sE s₃) (nd : (names.map (·.1)).Nodup) (la : Laid1 s₃.heap names closure h' L cells) (lo : LayOf X.B ρp names ρ) (hL : X.env.locals = L) (hC : X.env.cells = cells)
    (kl : ∀ x, (x, NameKind.local) ∈ names → X.env.kindOf x = some .local) (kc : ∀ x, (x, NameKind.cell) ∈ names → X.env.kindOf x = some .cell)
    (kg : ∀ x, (x, NameKind.globalImplicit) ∈ names → X.env.kindOf x = some .globalImplicit)
    (kf : ∀ x, (x, NameKind.free) ∈ names → X.env.kindOf x = some .cell ∨ X.env.kindOf x = some .free)
    (fr : ∀ x e, (x, e) ∈ ρp → e.known = true → (x, NameKind.free) ∈ names → ∃ c v, closure.lookup x = some c ∧ s₃.heap.IsCell c (some v) ∧ EntOk X.sE.heap W s₃.heap (some v) e.ro)
    (wal : ∀ a ∈ W, ∃ o, s₃.heap.get? a = some o) (pr : Prot P W s₃.heap) : OkP X W P ρ { s₃ with heap := h', toks := tk } := by
  refine ⟨⟨⟨k.ext.wider.trans (.of_keep la.keep), k.gens, k.os⟩, nd.sublist lo.keys, fun p hp => ?_, fun p hp q hq a ns b ms e1 e2 => ?_, fun a ha => let ⟨o, e⟩ := wal a ha; ⟨o, la.keep a o e⟩⟩, pr.keep la.keep⟩
  · rcases lo.cases p hp with ⟨hu, hk | hk⟩ | ⟨hk, e, hm, hkn, he⟩ | ⟨hk, v, hv, hg⟩
    · refine .inr ⟨⟨Option.none, .inl ⟨kl _ hk, _, hL ▸ la.ns, rfl⟩, by rw [hu]; trivial⟩, fun zz1 => ⟨fun zz1 => .inl (hL ▸ k.ext.fresh la.fresh), (fun z => by rw [kl _ hk] at z; cases z), (fun c z => by rw [kl _ hk] at z; cases z)⟩⟩
    · obtain ⟨c, h1, h2, h3⟩ := la.cell _ hk
      refine .inr ⟨⟨Option.none, .inr ⟨.inl (kc _ hk), c, hC ▸ h1, h2⟩, by rw [hu]; trivial⟩, fun zz1 => ⟨(fun z => by rw [kc _ hk] at z; cases z), (fun z => by rw [kc _ hk] at z; cases z), fun c' z z' => ?_⟩⟩
      rw [hC, h1] at z'; cases z'; exact .inl (k.ext.fresh h3)
    · obtain ⟨c, v, h1, h2, h3⟩ := fr _ _ hm hkn hk
      refine .inr ⟨⟨some v, .inr ⟨kf _ hk, c, by rw [hC, la.free _ hk]; exact h1, h2.keeps la.keep⟩, by rw [he]; exact h3.keep la.keep⟩, fun z => ?_⟩
      rw [he, Ent.ro_rw] at z; cases z
    · exact .inl ⟨v, hv, kg _ hk, hg⟩
  · rcases lo.cases p hp with ⟨hu, _⟩ | ⟨_, e, _, _, he⟩ | ⟨_, v, hv, _⟩
    · rw [hu] at e1; cases e1
    · rw [he] at e1; exact absurd e1 (Ent.ro_own _ _ _)
    · rw [hv] at e1; cases e1

/- the parameters, one by one -/
inductive PutAll : List (Str × Ent) → List (Str × Value) → List (Bool × D) → List (Str × Ent) → Prop
  | nil {ρ : List (Str × Ent)} : PutAll ρ [] [] ρ
  | val {ρ ρ' ρ'' : List (Str × Ent)} {x : Str} {v : Value} {d : D} {bs : List (Str × Value)} {ds : List (Bool × D)} : Put ρ x (.val true d) ρ' → PutAll ρ' bs ds ρ'' → PutAll ρ ((x, v) :: bs) ((true, d) :: ds) ρ''
  | tmp {ρ ρ' ρ'' : List (Str × Ent)} {x : Str} {v : Value} {d : D} {bs : List (Str × Value)} {ds : List (Bool × D)} : Put ρ x (.tmp true d) ρ' → PutAll ρ' bs ds ρ'' → PutAll ρ ((x, v) :: bs) ((false, d) :: ds) ρ''
/- handed values: true: to keep -/
inductive Hand (hE : Heap) (W : List Addr) (h : Heap) : List Value → List (Bool × D) → Prop
  | nil : Hand hE W h [] []
  | val {v : Value} {d : D} {vs : List Value} {ds : List (Bool × D)} : Rep W h v d → Hand hE W h vs ds → Hand hE W h (v :: vs) ((true, d) :: ds)
  | tmp {v : Value} {d : D} {vs : List Value} {ds : List (Bool × D)} : RepT W h v d → (∀ b, v = .ref b → ∃ o, hE.get? b = some o) → Hand hE W h vs ds → Hand hE W h (v :: vs) ((false, d) :: ds)
theorem Hand.keep {hE : Heap} {W : List Addr} {h h' : Heap} {vs : List Value} {ds : List (Bool × D)} (x : Hand hE W h vs ds) (k : ∀ b o, h.get? b = some o → h'.get? b = some o) : Hand hE W h' vs ds := by
  induction x with
  | nil => exact .nil
  | val r _ ih => exact .val (r.keep k) ih
  | tmp r e _ ih => exact .tmp (r.keep k) e ih
end Mine



namespace Mine
open PySem PyProof.Rows

theorem zip_lookup_some : ∀ (ns : List Str) (vs : List Value), vs.length = ns.length → ∀ n ∈ ns, ((ns.zip vs).lookup n).isNone = false
  | [], _, _, n, h => by cases h
  | x :: ns, [], hl, n, h => by simp at hl
  | x :: ns, v :: vs, hl, n, h => by
    rw [List.zip_cons_cons, List.lookup_cons]
    cases e : n == x with
    | true => rfl
    | false =>
      rcases List.mem_cons.mp h with rfl | h
      · simp at e
      · exact zip_lookup_some ns vs (by simpa using hl) n h
theorem zip_filterMap : ∀ (ns : List Str) (vs : List Value), vs.length = ns.length → ns.Nodup → ns.filterMap (fun n => ((ns.zip vs).lookup n).map (n, ·)) = ns.zip vs
  | [], _, _, _ => rfl
  | x :: ns, [], hl, _ => by simp at hl
  | x :: ns, v :: vs, hl, nd => by
    rw [List.nodup_cons] at nd
    rw [List.zip_cons_cons, List.filterMap_cons]
    simp only [List.lookup_cons, beq_self_eq_true, Option.map_some]
    congr 1
    have ih := zip_filterMap ns vs (by simpa using hl) nd.2
    have key : ∀ (l : List Str) (f g : Str → Option (Str × Value)), (∀ n ∈ l, f n = g n) → l.filterMap f = l.filterMap g := by
      intro l f g h
      induction l with
      | nil => rfl
      | cons a l ih => rw [List.filterMap_cons, List.filterMap_cons, h a (.head _), ih fun n hn => h n (.tail _ hn)]
    refine Eq.trans (key _ _ _ fun n hn => ?_) ih
    have : (n == x) = false := by
      simp only [beq_eq_false_iff_ne, ne_eq]
      intro e; subst e; exact nd.1 hn
    rw [this]

theorem bind_plain {fd : FuncData} {as : List Arg} {vs : List Value} (hp : fd.params = ⟨[], as, Option.none, [], [], Option.none, []⟩) (hd : fd.defaults = .none) (hl : vs.length = as.length) (nd : (as.map (·.arg)).Nodup) :
    bindArgs fd ⟨vs, []⟩ = pure ((as.map (·.arg)).zip vs) := by
  have hl' : vs.length = (as.map (·.arg)).length := by rw [List.length_map]; exact hl
  have hm : (as.map (·.arg)).filter (fun n => (((as.map (·.arg)).zip vs).lookup n).isNone) = [] := by
    rw [List.filter_eq_nil_iff]
    intro n hn
    rw [zip_lookup_some _ _ hl' n hn]
    exact Bool.false_ne_true
  have h0 : seqItems? Value.none = pure Option.none := rfl
  have hgt : (decide (vs.length > (as.map (·.arg)).length) && true) = false := by
    rw [Bool.and_true]; exact decide_eq_false (by (first | lia | omega))
  have htk : List.take ((as.map (·.arg)).length) (as.map (·.arg)) = as.map (·.arg) := List.take_of_length_le (Nat.le_refl _)
  unfold bindArgs
  rw [hp, hd]
  simp only [h0, List.map_nil, List.nil_append, List.forIn_nil, pure_bind, Option.getD_none, List.length_nil, List.append_nil, Option.isNone_none, hgt, Bool.false_eq_true, if_false, Nat.zero_sub, List.drop_zero, Nat.sub_zero, htk, hm, List.isEmpty_nil, Bool.not_true]
  simp only [List.drop_nil, List.zip_nil_right, List.forIn_nil, pure_bind, List.isEmpty_nil, Bool.not_true, Bool.false_eq_true, if_false]
  rw [zip_filterMap _ _ hl' nd]

/- a function's object -/
structure FnIn (h : Heap) (a : Addr) (fd : FuncData) : Prop where
  obj : ∃ o, h.get? a = some o ∧ o.data = .func fd
  code : h.CodeRec fd.code fd.qualname
  globals : fd.globals = mainGlobals
  builtins : fd.builtins = builtinsNs
  kind : fd.scope.kind = .function
  co : fd.scope.isCoroutine = false
  gen : fd.scope.isGenerator = false
  nd : (fd.scope.names.map (·.1)).Nodup
theorem FnIn.keep {h h' : Heap} {a : Addr} {fd : FuncData} (x : FnIn h a fd) (k : ∀ b o, h.get? b = some o → h'.get? b = some o) : FnIn h' a fd :=
  { x with obj := (let ⟨o, e, r⟩ := x.obj; ⟨o, k _ _ e, r⟩), code := x.code.keeps k }

structure Room (A : Around) (n : Nat) : Prop where
  hnd : A.handled = Option.none
  dep : A.depth + n < recursionLimit
  uni : A.units + 8 * n + 100 < cLine
theorem Fine.room {X : Cx} (F : Fine X) : Room X.A X.n := ⟨F.hnd, F.dep, F.uni⟩
theorem Room.less {A : Around} {n m : Nat} (h : Room A n) (hm : m ≤ n) : Room A m := ⟨h.hnd, by have := h.dep; (first | lia | omega), by have := h.uni; (first | lia | omega)⟩
theorem Room.deeper {A : Around} {n : Nat} (h : Room A (n + 1)) (env : Env) : Room (A.deeper env) n :=
  ⟨h.hnd, by have := h.dep; show A.depth + 1 + n < _; (first | lia | omega), by have := h.uni; show A.units + 3 + 8 * n + 100 < _; (first | lia | omega)⟩

/- the closure's cells -/
structure CloOk (W : List Addr) (h : Heap) (clo : List (Str × Addr)) (ρp : List (Str × Ent)) : Prop where
  inj : ∀ x y c, clo.lookup x = some c → clo.lookup y = some c → x = y
  al : ∀ x c, clo.lookup x = some c → ∃ o, h.get? c = some o
  ent : ∀ x e, (x, e) ∈ ρp → e.known = true → ∃ c v, clo.lookup x = some c ∧ h.IsCell c (some v) ∧ EntOk h W h (some v) e.ro
theorem CloOk.nil {W : List Addr} {h : Heap} : CloOk W h [] [] := ⟨(fun zz1 zz2 zz3 e => by cases e), (fun zz1 zz2 e => by cases e), (fun zz1 zz2 e => by cases e)⟩

theorem Hand.moved {hE : Heap} {W : List Addr} {h h' : Heap} {vs : List Value} {ds : List (Bool × D)} (x : Hand hE W h vs ds) (m : Moved h h') : Hand hE W h' vs ds := by
  induction x with
  | nil => exact .nil
  | val r _ ih => exact .val (r.moved m) ih
  | tmp r e _ ih => exact .tmp (r.moved m) e ih

theorem puts_ok {X : Cx} {A : Around} {W : List Addr} {P : List Pr} (F : Fine X) (f : Str × Value → PUnit → Sem (ForInStep PUnit)) (hf : ∀ n v u, f (n, v) u = (do storeName X.env n v; pure (.yield ⟨⟩)))
    {ρ ρ' : List (Str × Ent)} {binds : List (Str × Value)} {ds : List (Bool × D)} (s : Shared) (Q : PUnit → Shared → Prop) (pa : PutAll ρ binds ds ρ') (hs : OkP X W P ρ s) (hd : Hand X.sE.heap W s.heap (binds.map (·.2)) ds)
    (q : ∀ s', OkP X W P ρ' s' → Q ⟨⟩ s') : wpAny X.M A (forIn binds ⟨⟩ f) Q NoE s := by
  induction pa generalizing s with
  | nil => rw [List.forIn_nil]; exact wpAny_pure (q s hs)
  | val hp _ ih =>
    rw [List.forIn_cons, hf]
    cases hd with
    | val r hd => exact wpAny_bind (wpAny_bind (store_val F hs hp r fun s' ok m => wpAny_pure (ih s' ok (hd.moved m) q)))
  | tmp hp _ ih =>
    rw [List.forIn_cons, hf]
    cases hd with
    | tmp r ex hd => exact wpAny_bind (wpAny_bind (store_tmp F hs hp r ex fun s' ok m => wpAny_pure (ih s' ok (hd.moved m) q)))

/- a new frame for a function -/
theorem env_fn2 {B : Base} {A : Around} {n : Nat} {T : List Addr} {s : Shared} {a : Addr} {fd : FuncData} {binds : List (Str × Value)} {ds : List (Bool × D)} {ρp ρ₀ ρ₁ : List (Str × Ent)} {W : List Addr} {A' : Around} {Q : Env → Shared → Prop}
    (rm : Room A (n + 1)) (tsub : ∀ a ∈ T, a ∈ B.T) (start : Ext B.T B.h₁ s.heap) (fn : FnIn s.heap a fd) (clo : CloOk W s.heap fd.closure ρp) (lo : LayOf B ρp fd.scope.names ρ₀) (pa : PutAll ρ₀ binds ds ρ₁) (hand : Hand s.heap W s.heap (binds.map (·.2)) ds)
    (wal : ∀ a ∈ W, ∃ o, s.heap.get? a = some o)
    (q : ∀ env s', Fine ⟨B, A.deeper env, env, s, n, T, closable fd.scope.names⟩ → OkP ⟨B, A.deeper env, env, s, n, T, closable fd.scope.names⟩ W [] ρ₁ s' → env.scope = fd.scope → env.code = fd.code → env.qual = fd.qualname ++ ".<locals>." → env.locals = s.heap.objs.size → Q env s') :
    wpAny (model B.prog B.w) A' (newFunctionEnv fd.scope fd.globals fd.closure binds (fd.qualname ++ ".<locals>.") (some a) fd.code Option.none fd.builtins) Q NoE s := by
  simp only [newFunctionEnv, Option.isSome_none, Bool.false_eq_true, if_false]
  refine wpAny_bind (wpAny_alloc ?_)
  refine wpAny_bind (wpAny_layCells _ (fun name kind cells => by cases hkc : kind == NameKind.cell <;> simp [hkc]) _ _ _ _ ?_)
  rw [show ({ s with heap := s.heap.push { cls := .type "frame", data := .dict #[] } } : Shared).heap.objs.size = s.heap.objs.size + 1 from Heap.size_push ..]
  have la := laid1 (h := s.heap) (names := fd.scope.names) (closure := fd.closure) fn.nd (.type "frame") clo.inj clo.al
  generalize hcs : cellsFrom (s.heap.objs.size + 1) fd.scope.names fd.closure = cells at la ⊢
  generalize henv : ({ scope := fd.scope, locals := s.heap.objs.size, globals := fd.globals, cells := cells, qual := fd.qualname ++ ".<locals>.", func := some a, code := fd.code, frame := some s.heap.objs.size, builtins := fd.builtins } : Env) = env
  have esc : env.scope = fd.scope := by rw [← henv]
  have elo : env.locals = s.heap.objs.size := by rw [← henv]
  have ece : env.cells = cells := by rw [← henv]
  have kk : ∀ x k, (x, k) ∈ fd.scope.names → env.kindOf x = some k := fun x k h => by unfold Env.kindOf; rw [esc]; exact nodup_lookup fn.nd h
  have F : Fine ⟨B, A.deeper env, env, s, n, T, closable fd.scope.names⟩ := ⟨by rw [esc]; exact fn.kind, by rw [← henv]; exact fn.globals, by rw [← henv]; exact fn.builtins, start, tsub, (fun x hx => by
    rcases closable_mem hx with h | h
    · exact .inl (kk x _ h)
    · exact .inr (kk x _ h)), rm.hnd, (rm.deeper env).dep, (rm.deeper env).uni, fun x y c h1 h2 => la.inj x y c (by rw [← ece]; exact h1) (by rw [← ece]; exact h2)⟩
  have ok : OkP ⟨B, A.deeper env, env, s, n, T, closable fd.scope.names⟩ W [] ρ₀ { s with heap := _, toks := s.toks } :=
    ok_new (X := ⟨B, A.deeper env, env, s, n, T, closable fd.scope.names⟩) (s₃ := s) (SExt.refl _ _) fn.nd la lo elo ece (fun x h => kk x _ h) (fun x h => kk x _ h) (fun x h => kk x _ h) (fun x h => .inr (kk x _ h)) (fun x e hm hk zz1 => clo.ent x e hm hk) wal fun p hp => (nomatch hp)
  refine wpAny_bind ?_
  exact puts_ok (A := A') F _ (fun zz1 zz2 zz3 => rfl) _ _ pa ok (hand.keep la.keep) fun s' ok' => wpAny_pure (q env s' F ok' esc (by rw [← henv]) (by rw [← henv]) elo)
theorem env_fn {B : Base} {A : Around} {n : Nat} {T : List Addr} {s : Shared} {a : Addr} {fd : FuncData} {binds : List (Str × Value)} {ds : List (Bool × D)} {ρp ρ₀ ρ₁ : List (Str × Ent)} {W : List Addr} {A' : Around} {Q : Env → Shared → Prop}
    (rm : Room A (n + 1)) (tsub : ∀ a ∈ T, a ∈ B.T) (start : Ext B.T B.h₁ s.heap) (fn : FnIn s.heap a fd) (clo : CloOk W s.heap fd.closure ρp) (lo : LayOf B ρp fd.scope.names ρ₀) (pa : PutAll ρ₀ binds ds ρ₁) (hand : Hand s.heap W s.heap (binds.map (·.2)) ds)
    (wal : ∀ a ∈ W, ∃ o, s.heap.get? a = some o)
    (q : ∀ env s', Fine ⟨B, A.deeper env, env, s, n, T, closable fd.scope.names⟩ → OkP ⟨B, A.deeper env, env, s, n, T, closable fd.scope.names⟩ W [] ρ₁ s' → Q env s') :
    wpAny (model B.prog B.w) A' (newFunctionEnv fd.scope fd.globals fd.closure binds (fd.qualname ++ ".<locals>.") (some a) fd.code Option.none fd.builtins) Q NoE s :=
  env_fn2 rm tsub start fn clo lo pa hand wal fun env s' F ok zz1 zz2 zz3 zz4 => q env s' F ok
end Mine



namespace Mine
open PySem PyProof.Rows

structure FnB (B : Base) (a : Addr) (fd : FuncData) : Prop where
  fn : FnIn B.h₁ a fd
  ad : a ∉ B.T
  cd : ∀ c, fd.code = .ref c → c ∉ B.T
theorem FnB.at {B : Base} {a : Addr} {fd : FuncData} (x : FnB B a fd) {h : Heap} (k : Ext B.T B.h₁ h) : FnIn h a fd :=
  { x.fn with
    obj := (let ⟨o, e, r⟩ := x.fn.obj; ⟨o, k.keep _ _ x.ad e, r⟩)
    code := (let ⟨c, o, vs, t, e, g, r⟩ := x.fn.code; ⟨c, o, vs, t, e, k.keep _ _ (x.cd c e) g, r⟩) }

theorem call_fn2 {B : Base} {A : Around} {n : Nat} {T : List Addr} {s : Shared} {a : Addr} {fd : FuncData} {body : List Stmt} {vs : List Value} {binds : List (Str × Value)} {ds : List (Bool × D)} {ρp ρ₀ ρ₁ : List (Str × Ent)} {W : List Addr} {R : Result → Shared → Prop}
    (rm : Room A (n + 1)) (tsub : ∀ a ∈ T, a ∈ B.T) (start : Ext B.T B.h₁ s.heap) (fn : FnIn s.heap a fd) (hbody : fd.body = .stmts body) (hbind : bindArgs fd ⟨vs, []⟩ = pure binds) (clo : CloOk W s.heap fd.closure ρp) (lo : LayOf B ρp fd.scope.names ρ₀)
    (pa : PutAll ρ₀ binds ds ρ₁) (hand : Hand s.heap W s.heap (binds.map (·.2)) ds) (wal : ∀ a ∈ W, ∃ o, s.heap.get? a = some o)
    (run : ∀ env s', Fine ⟨B, A.deeper env, env, s, n, T, closable fd.scope.names⟩ → OkP ⟨B, A.deeper env, env, s, n, T, closable fd.scope.names⟩ W [] ρ₁ s' → env.scope = fd.scope → env.code = fd.code → env.qual = fd.qualname ++ ".<locals>." → env.locals = s.heap.objs.size →
      wpAny (model B.prog B.w) (A.deeper env) (execs body env) (fun f s'' => R (.ok (.ret (match f with | .ret v => v | _ => .none))) s'') NoE s') :
    codeAny (model B.prog B.w) A (.call (.ref a) ⟨vs, []⟩) R s := by
  obtain ⟨o, ho, hd⟩ := fn.obj
  refine codeAny_call_function (by have := rm.dep; (first | lia | omega)) ho hd fn.co fn.gen hbody fn.code ?_
  rw [hbind]
  refine wpAny_pure (wpAny_mono (env_fn2 rm tsub start fn clo lo pa hand wal (Q := fun env s₂ => s₂.heap.NoLimit ∧ codeAny (model B.prog B.w) A (.func body env) R s₂) fun env s' F ok z1 z2 z3 z4 => ⟨ok.ok.lim F, codeAny_func (wpAny_mono (run env s' F ok z1 z2 z3 z4) (fun zz1 zz2 h => h) fun zz1 zz2 h => h.elim)⟩) (fun zz1 zz2 h => h) fun zz1 zz2 h => h.elim)
theorem call_fn {B : Base} {A : Around} {n : Nat} {T : List Addr} {s : Shared} {a : Addr} {fd : FuncData} {body : List Stmt} {vs : List Value} {binds : List (Str × Value)} {ds : List (Bool × D)} {ρp ρ₀ ρ₁ : List (Str × Ent)} {W : List Addr} {R : Result → Shared → Prop}
    (rm : Room A (n + 1)) (tsub : ∀ a ∈ T, a ∈ B.T) (start : Ext B.T B.h₁ s.heap) (fn : FnIn s.heap a fd) (hbody : fd.body = .stmts body) (hbind : bindArgs fd ⟨vs, []⟩ = pure binds) (clo : CloOk W s.heap fd.closure ρp) (lo : LayOf B ρp fd.scope.names ρ₀)
    (pa : PutAll ρ₀ binds ds ρ₁) (hand : Hand s.heap W s.heap (binds.map (·.2)) ds) (wal : ∀ a ∈ W, ∃ o, s.heap.get? a = some o)
    (run : ∀ env s', Fine ⟨B, A.deeper env, env, s, n, T, closable fd.scope.names⟩ → OkP ⟨B, A.deeper env, env, s, n, T, closable fd.scope.names⟩ W [] ρ₁ s' →
      wpAny (model B.prog B.w) (A.deeper env) (execs body env) (fun f s'' => R (.ok (.ret (match f with | .ret v => v | _ => .none))) s'') NoE s') :
    codeAny (model B.prog B.w) A (.call (.ref a) ⟨vs, []⟩) R s :=
  call_fn2 rm tsub start fn hbody hbind clo lo pa hand wal fun env s' F ok zz1 zz2 zz3 zz4 => run env s' F ok

theorem call_lam {B : Base} {A : Around} {n : Nat} {T : List Addr} {s : Shared} {a : Addr} {fd : FuncData} {body : Expr} {vs : List Value} {binds : List (Str × Value)} {ds : List (Bool × D)} {ρp ρ₀ ρ₁ : List (Str × Ent)} {W : List Addr} {R : Result → Shared → Prop}
    (rm : Room A (n + 1)) (tsub : ∀ a ∈ T, a ∈ B.T) (start : Ext B.T B.h₁ s.heap) (fn : FnIn s.heap a fd) (hbody : fd.body = .expr body) (hbind : bindArgs fd ⟨vs, []⟩ = pure binds) (clo : CloOk W s.heap fd.closure ρp) (lo : LayOf B ρp fd.scope.names ρ₀)
    (pa : PutAll ρ₀ binds ds ρ₁) (hand : Hand s.heap W s.heap (binds.map (·.2)) ds) (wal : ∀ a ∈ W, ∃ o, s.heap.get? a = some o)
    (run : ∀ env s', Fine ⟨B, A.deeper env, env, s, n, T, closable fd.scope.names⟩ → OkP ⟨B, A.deeper env, env, s, n, T, closable fd.scope.names⟩ W [] ρ₁ s' →
      wpAny (model B.prog B.w) (A.deeper env) (eval body env) (fun v s'' => R (.ok (.ret v)) s'') NoE s') :
    codeAny (model B.prog B.w) A (.call (.ref a) ⟨vs, []⟩) R s := by
  obtain ⟨o, ho, hd⟩ := fn.obj
  refine codeAny_of_tree ?_
  show wpAny _ A.in1 (callAny (.ref a) ⟨vs, []⟩) _ _ s
  simp only [callAny]
  refine wpAny_bind (wpAny_load ho ?_)
  obtain ⟨c, oc, vs', tq, hc, hoc, hdc, hq⟩ := id fn.code
  simp only [hd, callFunction, fn.co, fn.gen, hbody]
  rw [hc]
  refine wpAny_bind (m := field (.ref c) 1) (wpAny_field hoc hdc hq (wpAny_bind (wpAny_pure ?_)))
  rw [hbind]
  refine wpAny_bind (wpAny_pure (wpAny_bind ?_))
  rw [← hc]
  refine wpAny_mono (env_fn rm tsub start fn clo lo pa hand wal (Q := fun env s₂ => s₂.heap.NoLimit ∧ codeAny (model B.prog B.w) A (.expr body env) R s₂) fun env s' F ok => ⟨ok.ok.lim F, ?_⟩) (fun env s₂ h₂ => wpAny_bind (wpAny_enterFrame h₂.1 (by have := rm.dep; show A.depth < _; (first | lia | omega)) (wpAny_pure (And.intro rfl h₂.2)))) fun zz1 zz2 h => h.elim
  refine codeAny_of_tree ?_
  show wpAny _ (A.deeper env) (do point; ret (← (eval body env).onRaise (leaving env))) _ _ s'
  exact wpAny_bind (wpAny_point (wpAny_bind (wpAny_onRaise (wpAny_mono (run env s' F ok) (fun zz1 zz2 h => wpAny_pure h) fun zz1 zz2 h => h.elim))))

noncomputable def D.kept : D → Bool
  | .list _ => false
  | _ => true
noncomputable def flags (ds : List D) : List (Bool × D) := ds.map fun d => (d.kept, d)
theorem RepTs.hand {W : List Addr} {h : Heap} {vs : List Value} {ds : List D} (x : RepTs W h vs ds) : Hand h W h vs (flags ds) := by
  induction x with
  | nil => exact .nil
  | @cons v d vs ds r _ ih =>
    cases d with
    | list es => exact .tmp r (fun b e => by obtain ⟨a, us, e', ⟨_, ho⟩, _⟩ := r; rw [e] at e'; cases e'; exact ⟨_, ho⟩) ih
    | _ => exact .val r ih
theorem RepTs.length {W : List Addr} {h : Heap} {vs : List Value} {ds : List D} (x : RepTs W h vs ds) : vs.length = ds.length := by
  induction x with
  | nil => rfl
  | cons _ _ ih => rw [List.length_cons, List.length_cons, ih]
theorem zip_snd : ∀ (ns : List Str) (vs : List Value), vs.length = ns.length → (ns.zip vs).map (·.2) = vs
  | [], [], _ => rfl
  | [], _ :: _, h => by simp at h
  | _ :: _, [], h => by simp at h
  | x :: ns, v :: vs, h => by rw [List.zip_cons_cons, List.map_cons, zip_snd ns vs (by simpa using h)]

/- entries of the parameters -/
inductive Puts : List (Str × Ent) → List Str → List D → List (Str × Ent) → Prop
  | nil {ρ : List (Str × Ent)} : Puts ρ [] [] ρ
  | cons {ρ ρ' ρ'' : List (Str × Ent)} {x : Str} {d : D} {e : Ent} {ns : List Str} {ds : List D} : Put ρ x e ρ' → (e = if d.kept then .val true d else .tmp true d) → Puts ρ' ns ds ρ'' → Puts ρ (x :: ns) (d :: ds) ρ''
theorem Puts.all {ρ ρ' : List (Str × Ent)} {ns : List Str} {ds : List D} (h : Puts ρ ns ds ρ') : ∀ {vs : List Value}, vs.length = ds.length → PutAll ρ (ns.zip vs) (flags ds) ρ' := by
  induction h with
  | nil => intro vs hl; cases vs <;> first | exact .nil | simp at hl
  | @cons ρ ρ' ρ'' x d e ns ds hp he _ ih =>
    intro vs hl
    cases vs with
    | nil => simp at hl
    | cons v vs =>
      rw [List.zip_cons_cons]
      show PutAll ρ ((x, v) :: ns.zip vs) ((d.kept, d) :: flags ds) ρ''
      subst he
      cases hk : d.kept with
      | true => rw [hk] at hp; exact .val hp (ih (by simpa using hl))
      | false => rw [hk] at hp; exact .tmp hp (ih (by simpa using hl))
theorem Puts.len {ρ ρ' : List (Str × Ent)} {ns : List Str} {ds : List D} (h : Puts ρ ns ds ρ') : ns.length = ds.length := by
  induction h with
  | nil => rfl
  | cons _ _ _ ih => rw [List.length_cons, List.length_cons, ih]

theorem Post.back {l : Lv} {W : List Addr} {s s₁ : Shared} {v : Value} {h' : Heap} {d : D} (k : SExt [] s s₁) (x : Post l W s₁.heap v h' d) : Post l W s.heap v h' d := by
  cases l with
  | t => exact x
  | s => exact x
  | f => exact ⟨x.1, fun a e => k.ext.fresh (x.2 a e)⟩

/- what a call gives -/
noncomputable def CallV (X : Cx) (W : List Addr) (f : Value) (ds : List D) (l : Lv) (d : D) : Prop :=
  ∀ s ρ vs, Fine X → Ok X W ρ s → RepTs W s.heap vs ds → wpAny X.M X.A (call f vs []) (fun v s' => SExt [] s s' ∧ Post l W s.heap v s'.heap d) NoE s

theorem Reps.toTs {W : List Addr} {h : Heap} : ∀ {vs : List Value} {ds : List D}, Reps W h vs ds → RepTs W h vs ds
  | _, _, .nil => .nil
  | _, _, .cons a b => .cons a.toT (Reps.toTs b)
/- a call whose lists are not being changed -/
noncomputable def CallR (X : Cx) (W : List Addr) (f : Value) (ds : List D) (l : Lv) (d : D) : Prop :=
  ∀ s ρ vs, Fine X → Ok X W ρ s → Reps W s.heap vs ds → wpAny X.M X.A (call f vs []) (fun v s' => SExt [] s s' ∧ Post l W s.heap v s'.heap d) NoE s
end Mine



namespace Mine
open PySem PyProof.Rows

noncomputable def KeepOk (X : Cx) (W : List Addr) (f : Value) : Prop := ∀ s ρ, Fine X → Ok X W ρ s → wpAny X.M X.A (keeperOf f) (fun zz1 s' => s' = s) NoE s
theorem keepOk_builtin {X : Cx} {W : List Addr} {id : String} : KeepOk X W (.builtin id) := fun s ρ F hs => wpAny_pure rfl
theorem keepOk_fn {X : Cx} {W : List Addr} {a : Addr} {fd : FuncData} (fb : FnB X.B a fd) : KeepOk X W (.ref a) := fun s ρ F hs => by
  obtain ⟨o, ho, hd⟩ := (fb.at (hs.base F)).obj
  unfold keeperOf
  refine wpAny_bind (wpAny_load ho ?_)
  rw [hd]
  exact wpAny_pure rfl

theorem evalArgs_noStar {M : Model} {A : Around} {E : Value → Shared → Prop} {s : Shared} {f : Value} {args : List (Bool × Sem Value)} {Q : Args → Shared → Prop} (hst : args.any (·.1) = false)
    (h : wpAny M A (spliced args) (fun vs s' => Q ⟨vs, []⟩ s') E s) : wpAny M A (evalArgs f true args []) Q E s := by
  cases args with
  | nil =>
    unfold evalArgs
    show wpAny M A (spliced [] >>= _) Q E s
    exact wpAny_bind (wpAny_mono h (fun vs s' h' => wpAny_holding (wpAny_bind (wpAny_pure (wpAny_bind (wpAny_pure (wpAny_pure h')))))) fun zz1 zz2 x => x)
  | cons p rest =>
    obtain ⟨b, x⟩ := p
    rw [List.any_cons, Bool.or_eq_false_iff] at hst
    have hb : b = false := hst.1
    subst hb
    exact Calls.evalArgs_plain h

theorem callWith_V {X : Cx} {W : List Addr} {ρ : List (Str × Ent)} {f : Value} {es : List Expr} {ds : List D} {l : Lv} {d : D} {pos : Pos} {s : Shared} (F : Fine X) (hs : Ok X W ρ s) (ha : EvTs X W ρ es ds) (hc : CallV X W f ds l d) (hk : KeepOk X W f)
    (hst : (backTo pos (starEach es X.env)).any (·.1) = false) : wpAny X.M X.A (callWith pos f [] (backTo pos (starEach es X.env)) []) (fun v s' => SExt [] s s' ∧ Post l W s.heap v s'.heap d) NoE s := by
  unfold callWith
  refine wpAny_bind (wpAny_holding (evalArgs_noStar hst (wpAny_mono (ha pos s hs) (fun vs s₁ h₁ => wpAny_bind (wpAny_standAt ?_)) fun zz1 zz2 x => x)))
  have hs₁ := hs.mono h₁.1
  have main : wpAny X.M X.A (call f ([] ++ vs) []) (fun v s' => SExt [] s s' ∧ Post l W s.heap v s'.heap d) NoE s₁ :=
    wpAny_mono (hc s₁ ρ vs F hs₁ h₁.2) (fun v s' h => ⟨h₁.1.trans h.1, h.2.back h₁.1⟩) fun zz1 zz2 x => x
  have tail : ∀ {t : Sem Value}, wpAny X.M X.A t (fun v s' => SExt [] s s' ∧ Post l W s.heap v s'.heap d) NoE s₁ → wpAny X.M X.A (t >>= fun r => holding [r] point >>= fun zz1 => pure r) (fun v s' => SExt [] s s' ∧ Post l W s.heap v s'.heap d) NoE s₁ :=
    fun ht => wpAny_bind (wpAny_mono ht (fun r s₂ hr => wpAny_bind (wpAny_holding (wpAny_point (wpAny_pure hr)))) fun zz1 zz2 x => x)
  simp only [hst, List.any_nil, Bool.or_false]
  refine wpAny_bind (wpAny_mono (hk s₁ ρ F hs₁) (fun k s₂ e => ?_) fun zz1 zz2 x => x)
  subst e
  cases k with
  | frame =>
    dsimp only
    split
    · exact tail main
    · exact tail (by unfold callMarked; exact Calls.wpAny_keep main)
  | boundFrame =>
    dsimp only
    split
    · exact tail main
    · exact tail (by unfold callMarked; exact Calls.wpAny_keep main)
  | machine => exact tail main
  | caller => exact tail (wpAny_operateT main)

theorem ev_call {X : Cx} {W : List Addr} {ρ : List (Str × Ent)} {g : Str} {p : Pos} {f : Value} {es : List Expr} {ds : List D} {l : Lv} {d : D} {pos : Pos} (F : Fine X) (hf : (g, Ent.gl f) ∈ ρ) (ha : EvTs X W ρ es ds) (hc : CallV X W f ds l d) (hk : KeepOk X W f)
    (hst : ∀ env, (backTo pos (starEach es env)).any (·.1) = false := by intro _; rfl) (hg : okName g = true := by decide +kernel) : Ev X W ρ l (.Call (.Name g p) es [] pos) d := fun s hs => by
  show wpAny X.M X.A (eval (.Name g p) X.env >>= fun v => callWith pos v [] (backTo pos (starEach es X.env)) (backToKw pos (keywordEach [] X.env))) _ _ s
  refine wpAny_bind (wpAny_mono (ev_gl F hf hg s hs) (fun v s₁ h₁ => ?_) fun zz1 zz2 x => x)
  have e : v = f := by
    have r : Rep W s₁.heap v (.val f) := h₁.2
    cases r with | val => rfl
  subst e
  exact wpAny_mono (callWith_V F (hs.mono h₁.1) ha hc hk (hst _)) (fun v s' h => ⟨h₁.1.trans h.1, h.2.back h₁.1⟩) fun zz1 zz2 x => x

section
variable {X : Cx} {W : List Addr}
theorem repTs_one {h : Heap} {vs : List Value} {d : D} (r : RepTs W h vs [d]) : ∃ v, vs = [v] ∧ RepT W h v d := by
  cases r with | cons a b => cases b; exact ⟨_, rfl, a⟩
theorem repTs_two {h : Heap} {vs : List Value} {d d' : D} (r : RepTs W h vs [d, d']) : ∃ v v', vs = [v, v'] ∧ RepT W h v d ∧ RepT W h v' d' := by
  cases r with | cons a b => cases b with | cons c e => cases e; exact ⟨_, _, rfl, a, c⟩
theorem callV_len {ds : List D} (hz : ds.length ≤ 1000000) : CallV X W (.builtin "len") [.list ds] .f (.int ds.length) := fun s ρ vs F hs hr => by
  obtain ⟨v, rfl, a, us, rfl, hl, r⟩ := repTs_one hr
  refine Calls.call_len_list hl.isList (by rw [List.size_toArray, r.length]; (first | lia | omega)) ?_
  have e : ((us.toArray.size : Nat) : Int) = (ds.length : Int) := by rw [List.size_toArray, r.length]
  rw [e]
  exact ⟨sext_toks _ _, .int _ _, fun zz1 e => by cases e⟩
end
end Mine



namespace Mine
open PySem PyProof.Rows

noncomputable def rangeD (lo hi : Int) : List D := (List.range (hi - lo).toNat).map fun (i : Nat) => D.int (lo + i)

inductive SrcOk (W : List Addr) (h : Heap) : Value → List D → Prop
  | list {a : Addr} {vs : List Value} {ds : List D} : h.PlainList a vs.toArray → a ∉ W → Reps W h vs ds → SrcOk W h (.ref a) ds
  | range {a : Addr} {lo hi : Int} {t u v : Tok} : IsRange h a lo hi 1 t u v → -(2 ^ 62) ≤ lo → lo < 2 ^ 62 → -(2 ^ 62) ≤ hi → hi < 2 ^ 62 → SrcOk W h (.ref a) (rangeD lo hi)

noncomputable def Src (X : Cx) (W : List Addr) (ρ : List (Str × Ent)) (e : Expr) (ds : List D) : Prop :=
  ∀ s, Ok X W ρ s → wpAny X.M X.A (eval e X.env) (fun v s' => SExt [] s s' ∧ SrcOk W s'.heap v ds) NoE s

section
variable {X : Cx} {W : List Addr} {ρ : List (Str × Ent)}
theorem src_list {e : Expr} {ds : List D} (h : Ev X W ρ .s e (.list ds)) : Src X W ρ e ds := fun s hs =>
  wpAny_mono (h s hs) (fun v s' k => ⟨k.1, by
    have r : Rep W s'.heap v (.list ds) := k.2
    cases r with | list hl hw hr => exact .list hl hw hr⟩) fun zz1 zz2 x => x

/- a call, any end -/
theorem callWith_Q {f : Value} {args : List (Bool × Sem Value)} {pos : Pos} {s : Shared} {Q : Value → Shared → Prop} {V : List Value → Heap → Prop} (F : Fine X) (hs : Ok X W ρ s)
    (ha : wpAny X.M X.A (spliced args) (fun vs s' => SExt [] s s' ∧ V vs s'.heap) NoE s) (hk : KeepOk X W f)
    (hc : ∀ vs s₁, SExt [] s s₁ → V vs s₁.heap → wpAny X.M X.A (call f vs []) Q NoE s₁)
    (hst : args.any (·.1) = false) : wpAny X.M X.A (callWith pos f [] args []) Q NoE s := by
  unfold callWith
  refine wpAny_bind (wpAny_holding (evalArgs_noStar hst (wpAny_mono ha (fun vs s₁ h₁ => wpAny_bind (wpAny_standAt ?_)) fun zz1 zz2 x => x)))
  have hs₁ := hs.mono h₁.1
  have main : wpAny X.M X.A (call f ([] ++ vs) []) Q NoE s₁ := hc vs s₁ h₁.1 h₁.2
  have tail : ∀ {t : Sem Value}, wpAny X.M X.A t Q NoE s₁ → wpAny X.M X.A (t >>= fun r => holding [r] point >>= fun zz1 => pure r) Q NoE s₁ :=
    fun ht => wpAny_bind (wpAny_mono ht (fun r s₂ hr => wpAny_bind (wpAny_holding (wpAny_point (wpAny_pure hr)))) fun zz1 zz2 x => x)
  simp only [hst, List.any_nil, Bool.or_false]
  refine wpAny_bind (wpAny_mono (hk s₁ ρ F hs₁) (fun k s₂ e => ?_) fun zz1 zz2 x => x)
  subst e
  cases k with
  | frame =>
    dsimp only
    split
    · exact tail main
    · exact tail (by unfold callMarked; exact Calls.wpAny_keep main)
  | boundFrame =>
    dsimp only
    split
    · exact tail main
    · exact tail (by unfold callMarked; exact Calls.wpAny_keep main)
  | machine => exact tail main
  | caller => exact tail (wpAny_operateT main)

theorem name_Q {g : Str} {p : Pos} {f : Value} {es : List Expr} {pos : Pos} {s : Shared} {Q : Value → Shared → Prop} (F : Fine X) (hs : Ok X W ρ s) (hf : (g, Ent.gl f) ∈ ρ) (hg : okName g = true)
    (h : ∀ s₁, SExt [] s s₁ → wpAny X.M X.A (callWith pos f [] (backTo pos (starEach es X.env)) []) Q NoE s₁) : wpAny X.M X.A (eval (.Call (.Name g p) es [] pos) X.env) Q NoE s := by
  show wpAny X.M X.A (eval (.Name g p) X.env >>= fun v => callWith pos v [] (backTo pos (starEach es X.env)) (backToKw pos (keywordEach [] X.env))) _ _ s
  refine wpAny_bind (wpAny_mono (ev_gl F hf hg s hs) (fun v s₁ h₁ => ?_) fun zz1 zz2 x => x)
  have e : v = f := by
    have r : Rep W s₁.heap v (.val f) := h₁.2
    cases r with | val => rfl
  subst e
  exact h s₁ h₁.1

end

inductive ItOk (W : List Addr) (h : Heap) (it : Addr) : List Pr → List D → Nat → Prop
  | list {l : Addr} {o : Obj} {vs : List Value} {ds : List D} {i ep : Nat} : h.get? l = some o → o.cls = .type "list" → o.data = .seq vs.toArray ep → l ∉ W → Reps W h vs ds → h.IsListIter it l i → ItOk W h it [.obj l o, .reps vs ds] ds i
  | range {lo : Int} {n i : Nat} : IsRangeIter h it (lo + i) ((n : Int) - i) 1 → ItOk W h it [] ((List.range n).map fun (k : Nat) => D.int (lo + k)) i

theorem ItOk.obj {W : List Addr} {h : Heap} {it : Addr} {G : List Pr} {ds : List D} {i : Nat} (x : ItOk W h it G ds i) : ∃ o vs, h.get? it = some o ∧ o.data = .fields vs := by
  cases x with
  | list _ _ _ _ _ hi => obtain ⟨o, ho, _, hd⟩ := hi; exact ⟨o, _, ho, hd⟩
  | range hi => exact ⟨_, _, hi, rfl⟩
theorem ItOk.prot {W W' : List Addr} {h h' : Heap} {it : Addr} {G P : List Pr} {ds : List D} {i : Nat} {o : Obj} (x : ItOk W h it G ds i) (ho : h.get? it = some o) (p : Prot (.obj it o :: (G ++ P)) W' h') : ItOk W' h' it G ds i := by
  have hit : h'.get? it = some o := (p _ (.head _)).1
  cases x with
  | @list l ol vs ds i ep hl hc hd hw hr hi =>
    have p1 : PrOk W' h' (.obj l ol) := p _ (.tail _ (.head _))
    have p2 : PrOk W' h' (.reps vs ds) := p _ (.tail _ (.tail _ (.head _)))
    obtain ⟨o', ho', hc', hd'⟩ := hi
    rw [ho] at ho'; cases ho'
    exact .list p1.1 hc hd p1.2.1 p2 ⟨o, hit, hc', hd'⟩
  | range hi =>
    refine .range ?_
    have e : some o = some _ := ho.symm.trans hi
    rw [Option.some.inj e] at hit
    exact hit
theorem ItOk.allProt {W : List Addr} {h : Heap} {it : Addr} {G P : List Pr} {ds : List D} {i : Nat} {o : Obj} (x : ItOk W h it G ds i) (ho : h.get? it = some o) (hw : it ∉ W) (p : Prot P W h) : Prot (.obj it o :: (G ++ P)) W h := by
  obtain ⟨o', vs, ho', hd⟩ := x.obj
  rw [ho] at ho'; cases ho'
  intro q hq
  rcases List.mem_cons.mp hq with rfl | hq
  · exact ⟨ho, hw, .inl ⟨vs, hd⟩⟩
  · rcases List.mem_append.mp hq with hq | hq
    · cases x with
      | list hl hc hd hw hr hi =>
        rcases List.mem_cons.mp hq with rfl | hq
        · exact ⟨hl, hw, .inr ⟨_, _, hd⟩⟩
        · rcases List.mem_cons.mp hq with rfl | hq
          · exact hr
          · cases hq
      | range _ => cases hq
    · exact p q hq

/- an iterator moves on -/
theorem Holds1.extBut {h h' : Heap} {env : Env} {x : Str} {ov : Option Value} {a : Addr} (y : Holds1 h env x ov) (k : Heap.ExtBut a h h') {o : Obj} {vs : Array Value} (ho : h.get? a = some o) (hd : o.data = .fields vs) : Holds1 h' env x ov := by
  rcases y with ⟨b, m, n, e⟩ | ⟨b, c, e, n⟩
  · refine .inl ⟨b, m, n.extBut k fun z => ?_, e⟩
    obtain ⟨o', es, ep, ho', hd', _⟩ := n
    rw [z, ho] at ho'; cases ho'
    rw [hd] at hd'; cases hd'
  · refine .inr ⟨b, c, e, ?_⟩
    obtain ⟨o', ho', hd'⟩ := n
    refine ⟨o', k _ _ (fun z => ?_) ho', hd'⟩
    rw [z, ho] at ho'; cases ho'
    rw [hd] at hd'; cases hd'
theorem OkP.step {X : Cx} {W : List Addr} {P : List Pr} {ρ : List (Str × Ent)} {s : Shared} {it : Addr} {o : Obj} {vs : Array Value} {h' : Heap} {tk : Nat} (x : OkP X W P ρ s) (ho : s.heap.get? it = some o) (hd : o.data = .fields vs)
    (hfr : X.sE.heap.get? it = Option.none) (hw : it ∉ W) (hp : ∀ o, Pr.obj it o ∉ P) (k : Heap.ExtBut it s.heap h') : OkP X W P ρ { s with heap := h', toks := tk } := by
  have nd : NoData s.heap it := .fields ho hd
  refine ⟨⟨⟨x.ok.ext.ext.extBut hfr k, x.ok.ext.gens, x.ok.ext.os⟩, x.ok.nd, fun p hp => ?_, x.ok.own, fun a ha => ?_⟩, fun p hp' => ?_⟩
  · rcases x.ok.ent p hp with g | ⟨⟨ov, a, b⟩, c⟩
    · exact .inl g
    · exact .inr ⟨⟨ov, a.extBut k ho hd, b.extBut k nd⟩, c⟩
  · obtain ⟨o, e⟩ := x.ok.wal a ha
    exact ⟨o, k _ _ (fun z => hw (z ▸ ha)) e⟩
  · have y := x.prot p hp'
    cases p with
    | obj b o' => exact ⟨k _ _ (fun z => hp o' (z ▸ hp')) y.1, y.2⟩
    | reps vs ds => exact Reps.extBut y k (.inr nd)

theorem it_start {X : Cx} {W : List Addr} {ρ : List (Str × Ent)} {s : Shared} {v : Value} {ds : List D} (F : Fine X) (hs : Ok X W ρ s) (h : SrcOk W s.heap v ds) {Q : Value → Shared → Prop}
    (q : ∀ it G s', SExt [] s s' → ItOk W s'.heap it G ds 0 → s.heap.get? it = Option.none → Q (.ref it) s') : wpAny X.M X.A (pyIter v) Q NoE s := by
  cases h with
  | list hl hw hr =>
    obtain ⟨o, ho, hc, n, hd⟩ := hl.isList
    refine wpAny_pyIter_list hl.isList (q _ _ _ (sext_push _ _) (.list (Heap.get?_push_of_some _ ho) hc hd hw (hr.keep fun b o e => Heap.get?_push_of_some _ e) ⟨_, Heap.get?_push_size _ rfl, rfl, rfl⟩) (get_size _))
  | @range a lo hi t u v hr h1 h2 h3 h4 =>
    refine wpAny_pyIter_range hr (small_one h1 h2 h3 h4) (q _ [] _ (sext_push _ _) ?_ (get_size _))
    refine .range ?_
    have e : Builtin.Range.rangeSize lo hi 1 = (((hi - lo).toNat : Nat) : Int) := rangeSize_nat lo hi
    rw [e]
    have e1 : lo + ((0 : Nat) : Int) = lo := by simp
    have e2 : (((hi - lo).toNat : Nat) : Int) - ((0 : Nat) : Int) = (((hi - lo).toNat : Nat) : Int) := by simp
    rw [e1, e2]
    exact Heap.get?_push_size _ rfl

theorem it_next {X : Cx} {W : List Addr} {P : List Pr} {ρ : List (Str × Ent)} {s : Shared} {it : Addr} {G : List Pr} {ds : List D} {i : Nat} {d : D} (F : Fine X) (ok : OkP X W P ρ s) (hit : ItOk W s.heap it G ds i) (hd : ds[i]? = some d)
    (hfr : X.sE.heap.get? it = Option.none) (hw : it ∉ W) (hp : ∀ o, Pr.obj it o ∉ P) {Q : Option Value → Shared → Prop}
    (q : ∀ v s', OkP X W P ρ s' → ItOk W s'.heap it G ds (i + 1) → Rep W s'.heap v d → Mv s.heap s'.heap → Q (some v) s') : wpAny X.M X.A (pyNext (.ref it)) Q NoE s := by
  cases hit with
  | @list l o vs ds i ep hl hc hdl hlw hr hi =>
    obtain ⟨v, hv, rv⟩ := hr.get hd
    obtain ⟨oi, hoi, hci, hdi⟩ := id hi
    have hli : l ≠ it := fun z => by
      rw [z, hoi] at hl; cases hl
      rw [hdl] at hdi; cases hdi
    refine wpAny_pyNext_list_item hi ⟨o, hl, hc, _, hdl⟩ (by simpa using hv) fun h' hi' hsb => ?_
    have nd : NoData s.heap it := .fields hoi hdi
    refine q v _ (ok.step (tk := s.toks) hoi hdi hfr hw hp hsb.extBut) (.list (hsb.extBut _ _ hli hl) hc hdl hlw (hr.extBut hsb.extBut (.inr nd)) hi') (rv.extBut hsb.extBut (.inr nd)) (Moved.mv ⟨it, hsb.extBut, nd⟩)
  | @range lo n i hi =>
    have hlt : i < n := by
      have := (List.getElem?_eq_some_iff.mp hd).1
      simpa using this
    have he : d = .int (lo + i) := by
      rw [List.getElem?_map, List.getElem?_range hlt] at hd
      cases hd; rfl
    subst he
    refine wpAny_pyNext_range_item hi (by (first | lia | omega)) fun h' hi' hsb => ?_
    refine q _ _ (ok.step (tk := s.toks + 1) hi rfl hfr hw hp hsb.extBut) (.range ?_) (.int _ _) (Moved.mv ⟨it, hsb.extBut, .fields hi rfl⟩)
    have e1 : lo + (i : Int) + 1 = lo + ((i + 1 : Nat) : Int) := by (first | lia | omega)
    have e2 : ((n : Int) - (i : Int)) - 1 = (n : Int) - ((i + 1 : Nat) : Int) := by (first | lia | omega)
    rw [e1, e2] at hi'
    exact hi'

theorem it_end {X : Cx} {W : List Addr} {P : List Pr} {ρ : List (Str × Ent)} {s : Shared} {it : Addr} {G : List Pr} {ds : List D} {i : Nat} (F : Fine X) (ok : OkP X W P ρ s) (hit : ItOk W s.heap it G ds i) (hd : ds[i]? = Option.none)
    (hfr : X.sE.heap.get? it = Option.none) (hw : it ∉ W) (hp : ∀ o, Pr.obj it o ∉ P) {Q : Option Value → Shared → Prop}
    (q : ∀ s', OkP X W P ρ s' → Mv s.heap s'.heap → Q Option.none s') : wpAny X.M X.A (pyNext (.ref it)) Q NoE s := by
  cases hit with
  | @list l o vs ds i ep hl hc hdl hlw hr hi =>
    obtain ⟨oi, hoi, hci, hdi⟩ := id hi
    refine wpAny_pyNext_list_end F.hnd hi ⟨o, hl, hc, _, hdl⟩ ?_ fun h' hk => q _ (ok.step (tk := s.toks) hoi hdi hfr hw hp hk) (Moved.mv ⟨it, hk, .fields hoi hdi⟩)
    rw [List.getElem?_eq_none_iff] at hd
    simp only [List.getElem?_toArray, List.getElem?_eq_none_iff]
    rw [hr.length]; exact hd
  | @range lo n i hi =>
    rw [List.getElem?_eq_none_iff] at hd
    simp at hd
    exact wpAny_pyNext_range_end F.hnd hi (by (first | lia | omega)) fun h' hk => q _ (ok.step (tk := s.toks) hi rfl hfr hw hp hk) (Moved.mv ⟨it, hk, .fields hi rfl⟩)
end Mine



namespace Mine
open PySem PyProof.Rows

noncomputable abbrev Nrm := List Pr → Shared → Prop
noncomputable abbrev Rtn := Value → Shared → Prop
/- what a block's end means -/
noncomputable def Fin (N : Nrm) (R : Rtn) (P : List Pr) (f : Flow) (s : Shared) : Prop := match f with
  | .next => N P s
  | .ret v => R v s
  | _ => False
/- a block -/
noncomputable def Blk (X : Cx) (W : List Addr) (ρ : List (Str × Ent)) (sts : List Stmt) (N : Nrm) (R : Rtn) : Prop :=
  ∀ P s, OkP X W P ρ s → wpAny X.M X.A (execs sts X.env) (fun f s' => Fin N R P f s') NoE s
/- what is left of a block -/
noncomputable def Then (X : Cx) (rest : List Stmt) (N : Nrm) (R : Rtn) (P : List Pr) (s : Shared) : Prop := wpAny X.M X.A (execs rest X.env) (fun f s' => Fin N R P f s') NoE s
/- one statement -/
noncomputable def Stm (X : Cx) (W : List Addr) (ρ : List (Str × Ent)) (st : Stmt) (N : Nrm) (R : Rtn) : Prop :=
  ∀ P s, OkP X W P ρ s → wpAny X.M X.A (exec st X.env) (fun f s' => Fin N R P f s') NoE s

section
variable {X : Cx} {W : List Addr} {ρ : List (Str × Ent)} {N : Nrm} {R : Rtn}
theorem blk_nil (h : ∀ P s, OkP X W P ρ s → N P s) : Blk X W ρ [] N R := fun P s hs => wpAny_execs_nil (h P s hs)
theorem blk_cons {st : Stmt} {rest : List Stmt} (h : Stm X W ρ st (Then X rest N R) R) : Blk X W ρ (st :: rest) N R := fun P s hs =>
  wpAny_execs_cons (wpAny_mono (h P s hs) (fun f s' q => by
    cases f with
    | next => exact q
    | ret v => exact q
    | _ => exact q.elim) fun zz1 zz2 x => x)
theorem then_of {W' : List Addr} {ρ' : List (Str × Ent)} {rest : List Stmt} (h : Blk X W' ρ' rest N R) : ∀ P s, OkP X W' P ρ' s → Then X rest N R P s := fun P s hs => h P s hs
theorem blk_mono {sts : List Stmt} {N' : Nrm} (h : Blk X W ρ sts N R) (k : ∀ P s, N P s → N' P s) : Blk X W ρ sts N' R := fun P s hs =>
  wpAny_mono (h P s hs) (fun f s' q => by
    cases f with
    | next => exact k _ _ q
    | ret v => exact q
    | _ => exact q.elim) fun zz1 zz2 x => x

theorem stm_assign {x : Str} {p pos : Pos} {e : Expr} {d : D} {ρ' : List (Str × Ent)} (F : Fine X) (h : Ev X W ρ .s e d) (hp : Put ρ x (.val true d) ρ') (n : ∀ P s, OkP X W P ρ' s → N P s)
    (hs : ∀ env, swapsWith e (some (.Name x p)) pos.line env = pure false := by intro _; rfl) : Stm X W ρ (.Assign [.Name x p] e pos) N R := fun P s ok =>
  wpAny_Assign_Name (wpAny_mono (h s ok.ok) (fun v s₁ k => store_val F (ok.mono k.1) hp k.2 fun s' ok' zz1 => n P s' ok') fun zz1 zz2 x => x) (hs _)

theorem assign {x : Str} {p pos : Pos} {e : Expr} {d : D} {ρ' : List (Str × Ent)} {rest : List Stmt} (F : Fine X) (h : Ev X W ρ .s e d) (hp : Put ρ x (.val true d) ρ') (n : Blk X W ρ' rest N R)
    (hs : ∀ env, swapsWith e (some (.Name x p)) pos.line env = pure false := by intro _; rfl) : Blk X W ρ (.Assign [.Name x p] e pos :: rest) N R :=
  blk_cons (stm_assign F h hp (then_of n) hs)

/- masked addresses, not there before -/
theorem Rep.maskN {W N : List Addr} {h h' : Heap} {v : Value} {d : D} (x : Rep W h v d) (k : ∀ b o, h.get? b = some o → h'.get? b = some o) (ha : ∀ a ∈ N, h.get? a = Option.none) : Rep (N ++ W) h' v d :=
  x.move fun b o hw e zz1 => ⟨k b o e, fun z => by
    rcases List.mem_append.mp z with z | z
    · rw [ha b z] at e; cases e
    · exact hw z⟩
theorem Reps.maskN {W N : List Addr} {h h' : Heap} {v : List Value} {d : List D} (x : Reps W h v d) (k : ∀ b o, h.get? b = some o → h'.get? b = some o) (ha : ∀ a ∈ N, h.get? a = Option.none) : Reps (N ++ W) h' v d :=
  x.move fun b o hw e zz1 => ⟨k b o e, fun z => by
    rcases List.mem_append.mp z with z | z
    · rw [ha b z] at e; cases e
    · exact hw z⟩
theorem ok_maskN {N : List Addr} {s s' : Shared} (ok : Ok X W ρ s) (k : SExt [] s s') (hf : ∀ a ∈ N, s.heap.get? a = Option.none) (th : ∀ a ∈ N, ∃ o, s'.heap.get? a = some o) : Ok X (N ++ W) ρ s' := by
  refine ⟨ok.ext.trans k.wider, ok.nd, fun p hp => ?_, ok.own, fun b hb => ?_⟩
  · rcases ok.ent p hp with g | ⟨⟨ov, h1, h2⟩, h3⟩
    · exact .inl g
    · refine .inr ⟨⟨ov, h1.keep k.ext.strict, ?_⟩, h3⟩
      obtain ⟨x, ent⟩ := p
      cases ent with
      | un => trivial
      | val b d => obtain ⟨v, e, rr⟩ := h2; exact ⟨v, e, rr.maskN k.ext.strict hf⟩
      | tmp b d =>
        obtain ⟨v, e, rr, ex⟩ := h2
        refine ⟨v, e, ?_, ex⟩
        cases d with
        | list ds => obtain ⟨b, vs, rfl, hl2, hr2⟩ := rr; exact ⟨b, vs, rfl, Mine.Heap.IsList.map hl2 (k.ext.strict b), hr2.maskN k.ext.strict hf⟩
        | _ => exact Rep.maskN rr k.ext.strict hf
      | ownD b ms => obtain ⟨e, w, f, vs, hl2, hr2⟩ := h2; exact ⟨e, List.mem_append_right _ w, f, vs, Mine.Heap.IsList.map hl2 (k.ext.strict b), hr2.maskN k.ext.strict hf⟩
      | gl v => cases h2
  · rcases List.mem_append.mp hb with hb | hb
    · exact th b hb
    · obtain ⟨o, ho⟩ := ok.wal b hb; exact ⟨o, k.ext.strict b o ho⟩

/- a new object's address joins the mask -/
theorem OkP.mask {P : List Pr} {s s' : Shared} {a : Addr} (ok : OkP X W P ρ s) (k : SExt [] s s') (hfr : s.heap.get? a = Option.none) (th : ∃ o, s'.heap.get? a = some o) :
    OkP X (a :: W) P ρ s' ∧ (∀ q ∈ ρ, ∀ b ms, q.2 = .ownD b ms → b ≠ a) := by
  refine ⟨⟨ok_maskN (N := [a]) ok.ok k (fun b hb => by rw [List.mem_singleton.mp hb]; exact hfr) (fun b hb => by rw [List.mem_singleton.mp hb]; exact th), fun p hp => ?_⟩, fun q hq b ms e z => ?_⟩
  · have y := ok.prot p hp
    cases p with
    | obj b o =>
      refine ⟨k.ext.strict _ _ y.1, fun z => ?_, y.2.2⟩
      rcases List.mem_cons.mp z with rfl | z
      · have y1 := y.1; rw [hfr] at y1; cases y1
      · exact y.2.1 z
    | reps vs ds => exact Reps.mask y k.ext.strict hfr
  · rcases ok.ok.ent q hq with ⟨v, g, _⟩ | ⟨⟨ov, h1, h2⟩, h3⟩
    · rw [e] at g; cases g
    · rw [e] at h2
      obtain ⟨_, w, _⟩ := h2
      obtain ⟨o, ho⟩ := ok.ok.wal b w
      rw [z, hfr] at ho; cases ho
theorem reps_ints_any {W W' : List Addr} {h h' : Heap} {vs : List Value} {ns : List Int} (r : Reps W h vs (ns.map .int)) : Reps W' h' vs (ns.map .int) := by
  induction ns generalizing vs with
  | nil => cases r; exact .nil
  | cons n ns ih => cases r with | cons a b => cases a; exact .cons (.int _ _) (ih b)
/- a new list of ints, from here on changed in place -/
theorem own_ok {P : List Pr} {s s' : Shared} {a : Addr} {ns : List Int} (ok : OkP X W P ρ s) (k : SExt [] s s') (r : Post .f W s.heap (.ref a) s'.heap (.list (ns.map .int))) :
    OkP X (a :: W) P ρ s' ∧ EntOk X.sE.heap (a :: W) s'.heap (some (.ref a)) (.own a ns) ∧ (∀ q ∈ ρ, ∀ b ms, q.2 = .ownD b ms → b ≠ a) := by
  have hfr : s.heap.get? a = Option.none := r.2 a rfl
  have hE : X.sE.heap.get? a = Option.none := ok.ok.ext.ext.fresh hfr
  obtain ⟨r1, _⟩ := r
  cases r1 with
  | list hl hw hr =>
    rename_i vs
    obtain ⟨ok', hown⟩ := ok.mask k hfr (by obtain ⟨_, ho⟩ := hl; exact ⟨_, ho⟩)
    exact ⟨ok', ⟨rfl, .head _, hE, _, hl, reps_ints_any hr⟩, hown⟩

inductive PutF : List (Str × Ent) → Str → (Ent → List (Str × Ent)) → Prop
  | here {ρ : List (Str × Ent)} {x : Str} {e₀ : Ent} : e₀.rw = true → PutF ((x, e₀) :: ρ) x fun e => (x, e) :: ρ
  | there {ρ : List (Str × Ent)} {x : Str} {f : Ent → List (Str × Ent)} {p : Str × Ent} : PutF ρ x f → PutF (p :: ρ) x fun e => p :: f e
theorem PutF.put {ρ : List (Str × Ent)} {x : Str} {f : Ent → List (Str × Ent)} (h : PutF ρ x f) (e : Ent) : Put ρ x e (f e) := by
  induction h with
  | here hr => exact .here hr
  | there _ ih => exact .there ih
/- a name's slot is no list -/
theorem Holds1.butSeq {h h' : Heap} {env : Env} {y : Str} {ov : Option Value} {a : Addr} {vs : Array Value} (x : Holds1 h env y ov) (hl : h.PlainList a vs) (hsb : Heap.ExtBut a h h') : Holds1 h' env y ov := by
  obtain ⟨_, ho⟩ := hl
  rcases x with ⟨b, m, n, e⟩ | ⟨b, c, e, n⟩
  · refine .inl ⟨b, m, n.extBut hsb fun z => ?_, e⟩
    obtain ⟨o', es, ep, ho', hd', _⟩ := n
    rw [z, ho] at ho'; cases ho'
    cases hd'
  · refine .inr ⟨b, c, e, ?_⟩
    obtain ⟨o', ho', hd'⟩ := n
    refine ⟨o', hsb _ _ (fun z => ?_) ho', hd'⟩
    rw [z, ho] at ho'; cases ho'
    cases hd'
/- a masked list is changed: the entries of others -/
theorem EntryOk.grow {h h' : Heap} {a : Addr} {p : Str × Ent} (x : EntryOk X W h p) (w : a ∈ W) (f : X.sE.heap.get? a = Option.none) (hno : ∀ ms, p.2 ≠ .ownD a ms) {vs : Array Value} (hl : h.PlainList a vs) (hsb : Heap.ExtBut a h h') : EntryOk X W h' p := by
  obtain g | ⟨⟨ov, h2, h3⟩, fr⟩ := x
  · exact .inl g
  · refine .inr ⟨⟨ov, ?_, ?_⟩, fr⟩
    · exact h2.butSeq hl hsb
    · obtain ⟨y, ent⟩ := p
      cases ent with
      | un => trivial
      | val b d => obtain ⟨v, e, rr⟩ := h3; exact ⟨v, e, rr.extBut hsb (.inl w)⟩
      | tmp b d =>
        obtain ⟨v, e, rr, ex⟩ := h3
        refine ⟨v, e, ?_, ex⟩
        cases d with
        | list ds =>
          obtain ⟨b, us, rfl, hl2, hr2⟩ := rr
          refine ⟨b, us, rfl, hl2.extBut hsb fun z => ?_, hr2.extBut hsb (.inl w)⟩
          obtain ⟨o, ho⟩ := ex b rfl
          rw [z, f] at ho; cases ho
        | _ => exact Rep.extBut rr hsb (.inl w)
      | ownD b ks =>
        obtain ⟨e, w', f', us, hl2, hr2⟩ := h3
        exact ⟨e, w', f', us, hl2.extBut hsb fun z => hno ks (by rw [z]), hr2.extBut hsb (.inl w)⟩
      | gl v => cases h3
theorem wal_grow {h h' : Heap} {a : Addr} (x : ∀ b ∈ W, ∃ o, h.get? b = some o) (hsb : Heap.ExtBut a h h') (hth : ∃ o, h'.get? a = some o) : ∀ b ∈ W, ∃ o, h'.get? b = some o := fun b hb => by
  obtain ⟨o, ho⟩ := x b hb
  by_cases hba : b = a
  · rw [hba]; exact hth
  · exact ⟨o, hsb b o hba ho⟩
/- an own list's item is replaced -/
theorem own_setD {P : List Pr} {ρ' : List (Str × Ent)} {s : Shared} {x : Str} {a : Addr} {ns ms : List D} {h' : Heap} {tk : Nat} (ok : OkP X W P ρ s) (hx : (x, Ent.ownD a ns) ∈ ρ) (hp : Put ρ x (.ownD a ms) ρ')
    (hsb : Heap.ExtBut a s.heap h') (hl : ∃ vs, h'.PlainList a vs.toArray ∧ Reps W h' vs ms) : OkP X W P ρ' { s with heap := h', toks := tk } := by
  have ent := ok.ok.ent _ hx
  obtain ⟨_, z, _⟩ | ⟨⟨ov, h1, rfl, w, f, vs, hl0, hr0⟩, fr⟩ := ent
  · cases z
  have hth : ∃ o, h'.get? a = some o := by obtain ⟨vs, ⟨_, ho'⟩, _⟩ := hl; exact ⟨_, ho'⟩
  refine ⟨⟨⟨ok.ok.ext.ext.extBut f hsb, ok.ok.ext.gens, ok.ok.ext.os⟩, by rw [hp.keys]; exact ok.ok.nd, fun p hp' => ?_, fun p hp' p₂ hp₂ a₁ ns' b ms' e1 e2 hne => ?_, wal_grow ok.ok.wal hsb hth⟩, ok.prot.extButW hsb w⟩
  · rcases hp.cases ok.ok.nd p hp' with rfl | ⟨m', hne⟩
    · exact .inr ⟨⟨_, h1.butSeq hl0 hsb, rfl, w, f, hl⟩, fr⟩
    · exact (ok.ok.ent _ m').grow w f (fun ks e => ok.ok.own _ m' _ hx a ks a ns e rfl hne rfl) hl0 hsb
  · rcases hp.cases ok.ok.nd p hp' with rfl | ⟨m', hne'⟩
    · rcases hp.cases ok.ok.nd p₂ hp₂ with rfl | ⟨m₂, hne₂⟩
      · exact absurd rfl hne
      · cases e1
        exact ok.ok.own _ hx _ m₂ a ns b ms' rfl e2 hne
    · rcases hp.cases ok.ok.nd p₂ hp₂ with rfl | ⟨m₂, _⟩
      · cases e2
        exact ok.ok.own _ m' _ hx a₁ ns' a ns e1 rfl hne
      · exact ok.ok.own p m' p₂ m₂ a₁ ns' b ms' e1 e2 hne

theorem own_set {P : List Pr} {ρ' : List (Str × Ent)} {s : Shared} {x : Str} {a : Addr} {ns ms : List Int} {h' : Heap} {tk : Nat} (ok : OkP X W P ρ s) (hx : (x, Ent.own a ns) ∈ ρ) (hp : Put ρ x (.own a ms) ρ')
    (hsb : Heap.ExtBut a s.heap h') (hl : ∃ vs, h'.PlainList a vs.toArray ∧ Reps W h' vs (ms.map .int)) : OkP X W P ρ' { s with heap := h', toks := tk } := own_setD ok hx hp hsb hl
/- the value of an own list's name -/
theorem own_valD {P : List Pr} {s : Shared} {x : Str} {a : Addr} {ns : List D} (ok : OkP X W P ρ s) (hx : (x, Ent.ownD a ns) ∈ ρ) : Holds1 s.heap X.env x (some (.ref a)) ∧ ∃ vs, s.heap.PlainList a vs.toArray ∧ Reps W s.heap vs ns := by
  obtain ⟨_, z, _⟩ | ⟨⟨ov, h1, rfl, w, f, vs, hl0, hr0⟩, fr⟩ := ok.ok.ent _ hx
  · cases z
  exact ⟨h1, vs, hl0, hr0⟩
theorem own_val {P : List Pr} {s : Shared} {x : Str} {a : Addr} {ns : List Int} (ok : OkP X W P ρ s) (hx : (x, Ent.own a ns) ∈ ρ) : Holds1 s.heap X.env x (some (.ref a)) ∧ ∃ vs, s.heap.PlainList a vs.toArray ∧ Reps W s.heap vs (ns.map .int) := own_valD ok hx
/- if -/
theorem stm_if {e : Expr} {body orelse : List Stmt} {pos : Pos} {c : Bool} (h : Tst X W ρ e c) (ht : c = true → Blk X W ρ body N R) (hf : c = false → Blk X W ρ orelse N R) : Stm X W ρ (.If e body orelse pos) N R := fun P s ok =>
  wpAny_If (wpAny_mono (h s ok.ok) (fun b s₁ k => by
    obtain ⟨k, rfl⟩ := k
    cases b with
    | true => exact ht rfl P s₁ (ok.mono k)
    | false => exact hf rfl P s₁ (ok.mono k)) fun zz1 zz2 x => x)
theorem blk_if {e : Expr} {body orelse rest : List Stmt} {pos : Pos} {c : Bool} (h : Tst X W ρ e c) (ht : c = true → Blk X W ρ body (Then X rest N R) R) (hf : c = false → Blk X W ρ orelse (Then X rest N R) R) : Blk X W ρ (.If e body orelse pos :: rest) N R := blk_cons (stm_if h ht hf)
/- an if without else that ends the block -/
theorem blk_if_ret {e : Expr} {body rest : List Stmt} {pos : Pos} {c : Bool} (h : Tst X W ρ e c) (ht : c = true → Blk X W ρ body (Then X rest N R) R) (hf : c = false → Blk X W ρ rest N R) : Blk X W ρ (.If e body [] pos :: rest) N R :=
  blk_if h ht fun e => blk_nil fun P s ok => hf e P s ok

theorem blk_ret {l : Lv} {e : Expr} {pos : Pos} {d : D} {rest : List Stmt} (h : Ev X W ρ l e d) (q : ∀ P s v s', OkP X W P ρ s → SExt [] s s' → Post l W s.heap v s'.heap d → R v s') : Blk X W ρ (.Return (some e) pos :: rest) N R := blk_cons fun P s ok =>
  wpAny_Return_some (wpAny_mono (h s ok.ok) (fun v s' k => q P s v s' ok k.1 k.2) fun zz1 zz2 x => x)

/- what a def hands back -/
noncomputable def Ret (X : Cx) (W : List Addr) (l : Lv) (d : D) : Rtn := fun v s' => SExt X.T X.sE s' ∧ Post l W X.sE.heap v s'.heap d
theorem ret_f {e : Expr} {pos : Pos} {d : D} {rest : List Stmt} (h : Ev X W ρ .f e d) : Blk X W ρ (.Return (some e) pos :: rest) N (Ret X W .f d) :=
  blk_ret h fun P s v s' ok k p => ⟨ok.ok.ext.trans k.wider, p.1, fun a e => ok.ok.ext.ext.fresh (p.2 a e)⟩
/- an own list is handed back -/
theorem ret_ownD {x : Str} {p pos : Pos} {a : Addr} {ns : List D} {rest : List Stmt} {W₀ : List Addr} (F : Fine X) (hx : (x, Ent.ownD a ns) ∈ ρ) (wal : ∀ a ∈ W₀, ∃ o, X.sE.heap.get? a = some o) (hr : ∀ h vs, Reps W h vs ns → Reps W₀ h vs ns) (hn : okName x = true := by decide +kernel) :
    Blk X W ρ (.Return (some (.Name x p)) pos :: rest) N (Ret X W₀ .f (.list ns)) := blk_cons fun P s ok => by
  refine wpAny_Return_some ?_
  obtain ⟨_, z, _⟩ | ⟨⟨ov, h1, rfl, w, f, vs, hl, r⟩, fr⟩ := ok.ok.ent _ hx
  · cases z
  refine wpAny_Name (load1 F.kind h1 ?_ (okName_d hn).2) (okName_d hn).1
  refine ⟨ok.ok.ext, .list hl (fun z => ?_) (hr _ _ r), fun b e => by cases e; exact f⟩
  obtain ⟨o, ho⟩ := wal a z
  rw [f] at ho; cases ho
/- targets -/
noncomputable def Tgt (X : Cx) (W : List Addr) (ρ : List (Str × Ent)) (t : Expr) (d : D) (ρ' : List (Str × Ent)) : Prop :=
  ∀ P s v, OkP X W P ρ s → Rep W s.heap v d → wpAny X.M X.A (PySem.assign t X.env v) (fun zz1 s' => OkP X W P ρ' s' ∧ Mv s.heap s'.heap) NoE s
theorem tgt_name {x : Str} {p : Pos} {d : D} {ρ' : List (Str × Ent)} (F : Fine X) (hp : Put ρ x (.val true d) ρ') : Tgt X W ρ (.Name x p) d ρ' := fun P s v ok r =>
  wpAny_assign_Name (store_val F ok hp r fun s' ok' m => ⟨ok', m.mv⟩)

/- a block, of which more is known of the heap -/
noncomputable def BlkK (X : Cx) (W : List Addr) (ρ : List (Str × Ent)) (K : Heap → Prop) (sts : List Stmt) (N : Nrm) (R : Rtn) : Prop :=
  ∀ P s, OkP X W P ρ s → K s.heap → wpAny X.M X.A (execs sts X.env) (fun f s' => Fin N R P f s') NoE s
theorem blkK_cons {K : Heap → Prop} {st : Stmt} {rest : List Stmt} (h : ∀ P s, OkP X W P ρ s → K s.heap → wpAny X.M X.A (exec st X.env) (fun f s' => Fin (Then X rest N R) R P f s') NoE s) : BlkK X W ρ K (st :: rest) N R := fun P s hs hk =>
  wpAny_execs_cons (wpAny_mono (h P s hs hk) (fun f s' q => by
    cases f with
    | next => exact q
    | ret v => exact q
    | _ => exact q.elim) fun zz1 zz2 x => x)
/- for, the masks and what is known of the heap going with the turns -/
theorem blk_forK {ι : Type} {t iter : Expr} {body rest : List Stmt} {pos : Pos} {ds : List D} (F : Fine X) (Wf : ι → List Addr) (σ : ι → List (Str × Ent)) (K : ι → Heap → Prop) (hK : ∀ x h h', Mv h h' → K x h → K x h') (φ : Nat → ι → Prop) (x₀ : ι) (h0 : φ 0 x₀) {ρ₀ : List (Str × Ent)} (hs0 : ∀ s, Ok X (Wf x₀) ρ₀ s → Ok X (Wf x₀) (σ x₀) s)
    (src : Src X (Wf x₀) ρ₀ iter ds)
    (turn : ∀ i d x, ds[i]? = some d → φ i x → ∃ ρ', Tgt X (Wf x) (σ x) t d ρ' ∧ BlkK X (Wf x) ρ' (K x) body (fun P s => ∃ x', φ (i + 1) x' ∧ OkP X (Wf x') P (σ x') s ∧ K x' s.heap) R)
    (n : ∀ x, φ ds.length x → BlkK X (Wf x) (σ x) (K x) rest N R)
    (hf : ∀ env x, foldedSetIterable iter env x = pure x := by intro _ _; rfl) (hg : ∀ it v M A E Q (s : Shared), (∃ o vs, s.heap.get? it = some o ∧ o.data = .fields vs ∧ (o.cls = .type "list_iterator" ∨ o.cls = .type "range_iterator")) → Q () s → wpAny M A (letOwnedTupleGo t (.ref it) v) Q E s := by intro _ _ _ _ _ _ _ _ q; exact wpAny_pure q) :
    BlkK X (Wf x₀) ρ₀ (K x₀) (.For t iter body [] pos :: rest) N R := blkK_cons fun P s ok kk0 => by
  refine wpAny_For (wpAny_mono (src s ok.ok) (fun v s₁ k₁ => ?_) fun zz1 zz2 x => x) (hf _)
  refine it_start F (ok.ok.mono k₁.1) k₁.2 fun it G s₂ k₂ hit hfr => ?_
  have kk := k₁.1.trans k₂
  have ok₂ := ok.mono kk
  have hfE : X.sE.heap.get? it = Option.none := (ok.ok.ext.trans k₁.1.wider).ext.fresh hfr
  have hw : it ∉ Wf x₀ := fun z => by obtain ⟨o, ho⟩ := (ok.ok.mono k₁.1).wal it z; rw [hfr] at ho; cases ho
  have hpP : ∀ o, Pr.obj it o ∉ P := fun o z => by
    have y := (ok.mono k₁.1).prot _ z
    have y1 := y.1
    rw [hfr] at y1; cases y1
  refine codeAny_loop' rfl (fun k s' => ∃ i x, k = ds.length + 1 - i ∧ i ≤ ds.length ∧ φ i x ∧ it ∉ Wf x ∧ OkP X (Wf x) P (σ x) s' ∧ K x s'.heap ∧ ItOk (Wf x) s'.heap it G ds i) (fun k s₃ hI => ?_) (ds.length + 1) ⟨0, x₀, rfl, Nat.zero_le _, h0, hw, ⟨hs0 _ ok₂.ok, ok₂.prot⟩, hK _ _ _ (Ext.mv kk.ext) kk0, hit⟩
  clear hit ok₂ hw kk0 ok
  obtain ⟨i, x, rfl, hi, hφ, hw, ok₃, hk₃, hit₃⟩ := hI
  show wpAny _ _ ((forTurn t (.ref it) body [] X.env).onRaise (fun x => do noteFrame x X.env; theTreesLotGoes x)) _ _ s₃
  refine wpAny_onRaise (wpAny_mono (E := NoE) ?_ (fun zz1 zz2 x => x) fun zz1 zz2 x => x.elim)
  simp only [forTurn]
  refine wpAny_bind (wpAny_standAt (wpAny_bind (wpAny_onRaise ?_)))
  by_cases hlt : i < ds.length
  · have hd : ds[i]? = some ds[i] := by simp [hlt]
    refine wpAny_mono (E := NoE) (it_next F ok₃ hit₃ hd hfE hw hpP (Q := fun r s₄ => ∃ v, r = some v ∧ OkP X (Wf x) P (σ x) s₄ ∧ ItOk (Wf x) s₄.heap it G ds (i + 1) ∧ Rep (Wf x) s₄.heap v ds[i] ∧ Mv s₃.heap s₄.heap) fun v s₄ a b c m => ⟨v, rfl, a, b, c, m⟩) (fun r s₄ q => ?_) fun zz1 zz2 x => x.elim
    obtain ⟨v', rfl, ok₄, hit₄, rv, mv₄⟩ := q
    obtain ⟨o, vs, ho, hdo⟩ := hit₄.obj
    have hcls : o.cls = .type "list_iterator" ∨ o.cls = .type "range_iterator" := by
      cases hit₄ with
      | list _ _ _ _ _ hi => obtain ⟨o', ho', hc, _⟩ := hi; rw [ho] at ho'; cases ho'; exact .inl hc
      | range hi => have e := ho.symm.trans hi; rw [Option.some.inj e]; exact .inr rfl
    refine wpAny_bind (hg it v' _ _ _ _ _ ⟨o, vs, ho, hdo, hcls⟩ ?_)
    obtain ⟨ρ', htg, hbody⟩ := turn i _ x hd hφ
    have ok₅ : OkP X (Wf x) (.obj it o :: (G ++ P)) (σ x) s₄ := ⟨ok₄.ok, hit₄.allProt ho hw ok₄.prot⟩
    refine wpAny_bind (wpAny_mono (htg _ _ _ ok₅ rv) (fun zz1 s₅ ok₆ => ?_) fun zz1 zz2 x => x)
    refine wpAny_bind (wpAny_mono (hbody _ _ ok₆.1 (hK _ _ _ ok₆.2 (hK _ _ _ mv₄ hk₃))) (fun f s₆ q => ?_) fun zz1 zz2 x => x)
    cases f with
    | next =>
      obtain ⟨x', hφ', q', hk'⟩ := q
      exact wpAny_pure (.inl ⟨rfl, ds.length + 1 - (i + 1), by (first | lia | omega), i + 1, x', rfl, hlt, hφ', (q'.prot _ (.head _)).2.1, ⟨q'.ok, fun p hp => q'.prot p (.tail _ (List.mem_append.mpr (.inr hp)))⟩, hk', hit₄.prot ho q'.prot⟩)
    | ret v => exact wpAny_pure q
    | brk => exact q.elim
    | cont => exact q.elim
  · have e : i = ds.length := by (first | lia | omega)
    subst e
    refine wpAny_mono (E := NoE) (it_end F ok₃ hit₃ (by simp) hfE hw hpP (Q := fun r s₄ => r = Option.none ∧ OkP X (Wf x) P (σ x) s₄ ∧ Mv s₃.heap s₄.heap) fun s₄ a m => ⟨rfl, a, m⟩) (fun r s₄ q => ?_) fun zz1 zz2 x => x.elim
    obtain ⟨rfl, ok₄, mv₄⟩ := q
    exact wpAny_pure (.inr ⟨rfl, codeAny_block (wpAny_execs_nil (n x hφ P s₄ ok₄ (hK _ _ _ mv₄ hk₃)))⟩)
/- for -/
theorem blk_for {t iter : Expr} {body rest : List Stmt} {pos : Pos} {ds : List D} (F : Fine X) (σ : Nat → List (Str × Ent)) (h : Src X W ρ iter ds) (h0 : ∀ s, Ok X W ρ s → Ok X W (σ 0) s)
    (turn : ∀ i d, ds[i]? = some d → ∃ ρ', Tgt X W (σ i) t d ρ' ∧ Blk X W ρ' body (fun P s => OkP X W P (σ (i + 1)) s) R) (n : Blk X W (σ ds.length) rest N R)
    (hf : ∀ env x, foldedSetIterable iter env x = pure x := by intro _ _; rfl) (hg : ∀ it v M A E Q (s : Shared), (∃ o vs, s.heap.get? it = some o ∧ o.data = .fields vs ∧ (o.cls = .type "list_iterator" ∨ o.cls = .type "range_iterator")) → Q () s → wpAny M A (letOwnedTupleGo t (.ref it) v) Q E s := by intro _ _ _ _ _ _ _ _ q; exact wpAny_pure q) :
    Blk X W ρ (.For t iter body [] pos :: rest) N R := fun P s ok =>
  blk_forK (ι := Nat) F (fun zz1 => W) σ (fun zz1 zz2 => True) (fun zz1 zz2 zz3 zz4 zz5 => trivial) (fun i x => x = i) 0 rfl h0 h
    (fun i d x hd e => by subst e; obtain ⟨ρ', a, b⟩ := turn x d hd; exact ⟨ρ', a, fun P s ok zz1 => blk_mono b (fun P s q => ⟨_, rfl, q, trivial⟩) P s ok⟩)
    (fun x e P s ok zz1 => by subst e; exact n P s ok) hf hg P s ok trivial

end
end Mine



namespace Mine
open PySem PyProof.Rows

noncomputable def clos (env : Env) : List (Str × NameKind) → List (Str × Addr) → List (Str × Addr)
  | [], acc => acc
  | (x, k) :: r, acc => if k == .free then clos env r ((x, (env.cells.lookup x).getD 0) :: acc) else clos env r acc
theorem closureFor_clos {env : Env} {scope : Scope} (h : ∀ x, (x, NameKind.free) ∈ scope.names → ∃ c, env.cells.lookup x = some c) : closureFor scope env = pure (clos env scope.names []) := by
  have key : ∀ (names : List (Str × NameKind)) (acc : List (Str × Addr)) (f : Str × NameKind → List (Str × Addr) → Sem (ForInStep (List (Str × Addr)))),
      (∀ n k c, f (n, k) c = if k == .free then (do let a ← cellOf env n; pure (.yield ((n, a) :: c))) else pure (.yield c)) → (∀ x, (x, NameKind.free) ∈ names → ∃ c, env.cells.lookup x = some c) →
      forIn names acc f = pure (clos env names acc) := by
    intro names
    induction names with
    | nil => intro acc f _ _; rfl
    | cons p r ih =>
      intro acc f hf hh
      obtain ⟨x, k⟩ := p
      rw [List.forIn_cons, hf]
      unfold clos
      by_cases hk : (k == NameKind.free) = true
      · rw [if_pos hk, if_pos hk]
        have : k = .free := by simpa using hk
        subst this
        obtain ⟨c, hc⟩ := hh x (.head _)
        have e : cellOf env x = pure c := by unfold cellOf; rw [hc]
        rw [e, hc, pure_bind, pure_bind]
        exact ih _ f hf fun y hy => hh y (.tail _ hy)
      · rw [if_neg hk, if_neg hk, pure_bind]
        exact ih _ f hf fun y hy => hh y (.tail _ hy)
  simp only [closureFor]
  rw [key scope.names [] _ (fun n k c => by cases hk : k == NameKind.free <;> simp [hk]) h]
  rfl
theorem clos_mem {env : Env} : ∀ (names : List (Str × NameKind)) (acc : List (Str × Addr)) (x : Str) (c : Addr), (x, c) ∈ clos env names acc → (x, c) ∈ acc ∨ ((x, NameKind.free) ∈ names ∧ c = (env.cells.lookup x).getD 0)
  | [], _, _, _, h => .inl h
  | (y, k) :: r, acc, x, c, h => by
    unfold clos at h
    split at h
    · rename_i hk
      have : k = .free := by simpa using hk
      subst this
      rcases clos_mem r _ x c h with h | ⟨h1, h2⟩
      · rcases List.mem_cons.mp h with e | h
        · cases e; exact .inr ⟨.head _, rfl⟩
        · exact .inl h
      · exact .inr ⟨.tail _ h1, h2⟩
    · rcases clos_mem r _ x c h with h | ⟨h1, h2⟩
      · exact .inl h
      · exact .inr ⟨.tail _ h1, h2⟩
theorem clos_has {env : Env} : ∀ (names : List (Str × NameKind)) (acc : List (Str × Addr)) (x : Str), ((x, NameKind.free) ∈ names ∨ ∃ c, (x, c) ∈ acc) → ∃ c, (x, c) ∈ clos env names acc
  | [], _, _, h => by
    rcases h with h | h
    · cases h
    · exact h
  | (y, k) :: r, acc, x, h => by
    unfold clos
    split
    · rename_i hk
      refine clos_has r _ x ?_
      rcases h with h | ⟨c, h⟩
      · rcases List.mem_cons.mp h with e | h
        · cases e; exact .inr ⟨_, .head _⟩
        · exact .inl h
      · exact .inr ⟨c, .tail _ h⟩
    · rename_i hk
      refine clos_has r _ x ?_
      rcases h with h | h
      · rcases List.mem_cons.mp h with e | h
        · cases e; simp at hk
        · exact .inl h
      · exact .inr h
theorem clos_lookup {env : Env} {names : List (Str × NameKind)} {x : Str} {c : Addr} (h : (clos env names []).lookup x = some c) : (x, NameKind.free) ∈ names ∧ c = (env.cells.lookup x).getD 0 := by
  rcases clos_mem names [] x c (mem_of_lookup h) with h | h
  · cases h
  · exact h
theorem clos_some {env : Env} {names : List (Str × NameKind)} {x : Str} (h : (x, NameKind.free) ∈ names) : (clos env names []).lookup x = some ((env.cells.lookup x).getD 0) := by
  obtain ⟨c, hc⟩ := clos_has (env := env) names [] x (.inl h)
  obtain ⟨c', hl⟩ := lookup_of_mem hc
  rw [hl, (clos_lookup hl).2]

theorem relabel_mem {env : Env} {names : List (Str × NameKind)} (nd : (names.map (·.1)).Nodup) {x : Str} {k : NameKind} (h : (x, k) ∈ names) :
    (names.map fun (n, k) => if (k == NameKind.free && env.scope.kind == ScopeKind.function && env.kindOf n == some NameKind.cell) then (n, NameKind.cell) else (n, k)).lookup x =
      some (if (k == NameKind.free && env.scope.kind == ScopeKind.function && env.kindOf x == some NameKind.cell) then NameKind.cell else k) := by
  refine nodup_lookup ?_ ?_
  · have : (names.map fun (n, k) => if (k == NameKind.free && env.scope.kind == ScopeKind.function && env.kindOf n == some NameKind.cell) then (n, NameKind.cell) else (n, k)).map (·.1) = names.map (·.1) := by
      rw [List.map_map]
      apply List.map_congr_left
      intro p _
      obtain ⟨n, k⟩ := p
      show (if _ then (n, NameKind.cell) else (n, k)).1 = n
      split <;> rfl
    rw [this]; exact nd
  · have := List.mem_map_of_mem (f := fun (n, k) => if (k == NameKind.free && env.scope.kind == ScopeKind.function && env.kindOf n == some NameKind.cell) then (n, NameKind.cell) else (n, k)) h
    by_cases c : (k == NameKind.free && env.scope.kind == ScopeKind.function && env.kindOf x == some NameKind.cell) = true
    · rw [if_pos c]
      have e : (if (k == NameKind.free && env.scope.kind == ScopeKind.function && env.kindOf x == some NameKind.cell) = true then (x, NameKind.cell) else (x, k)) = (x, NameKind.cell) := if_pos c
      rw [← e]; exact this
    · rw [if_neg c]
      have e : (if (k == NameKind.free && env.scope.kind == ScopeKind.function && env.kindOf x == some NameKind.cell) = true then (x, NameKind.cell) else (x, k)) = (x, k) := if_neg c
      rw [← e]; exact this

/- tests of a clause -/
noncomputable def TstAll (X : Cx) (W : List Addr) (ρ : List (Str × Ent)) (ifs : List Expr) (c : Bool) : Prop :=
  ∀ s, Ok X W ρ s → wpAny X.M X.A (forIn ifs true fun t r => if r = true then do let ok ← isTrue t X.env (eval t X.env); pure (ForInStep.yield ok) else pure (ForInStep.yield r)) (fun ok s' => SExt [] s s' ∧ ok = c) NoE s
section
variable {X : Cx} {W : List Addr} {ρ : List (Str × Ent)}
theorem tstAll_nil : TstAll X W ρ [] true := fun s hs => by rw [List.forIn_nil]; exact wpAny_pure ⟨.refl .., rfl⟩
theorem tstAll_one {e : Expr} {c : Bool} (h : Tst X W ρ e c) : TstAll X W ρ [e] c := fun s hs => by
  rw [List.forIn_cons]
  refine wpAny_bind ?_
  show wpAny _ _ (do let ok ← isTrue e X.env (eval e X.env); pure (ForInStep.yield ok)) _ _ s
  refine wpAny_bind (wpAny_mono (h s hs) (fun b s₁ k => wpAny_pure ?_) fun zz1 zz2 x => x)
  show wpAny _ _ (forIn [] b _) _ _ s₁
  rw [List.forIn_nil]; exact wpAny_pure k

/- the list that is being made -/
noncomputable def AccIs (W : List Addr) (h : Heap) (acc : Addr) (ds : List D) : Prop := RepT W h (.ref acc) (.list ds)

noncomputable def Back (ρ' ρ : List (Str × Ent)) : Prop := ∀ s X W, Ok X W ρ' s → Ok X W ρ s
inductive PutU : List (Str × Ent) → Str → Ent → List (Str × Ent) → Prop
  | here {ρ : List (Str × Ent)} {x : Str} {e : Ent} : PutU ((x, .un) :: ρ) x e ((x, e) :: ρ)
  | there {ρ ρ' : List (Str × Ent)} {x : Str} {e : Ent} {p : Str × Ent} : PutU ρ x e ρ' → PutU (p :: ρ) x e (p :: ρ')
theorem PutU.put {ρ ρ' : List (Str × Ent)} {x : Str} {e : Ent} (h : PutU ρ x e ρ') : Put ρ x e ρ' := by
  induction h with
  | here => exact .here rfl
  | there _ ih => exact .there ih
theorem PutU.back {ρ ρ' : List (Str × Ent)} {x : Str} {e : Ent} (h : PutU ρ x e ρ') (he : e.rw = true) : Back ρ' ρ := by
  have key : ∀ p ∈ ρ, p ∈ ρ' ∨ (p.2 = .un ∧ ∃ e, (p.1, e) ∈ ρ' ∧ e.rw = true) := by
    induction h with
    | here =>
      intro p hp
      rcases List.mem_cons.mp hp with rfl | hp
      · exact .inr ⟨rfl, _, .head _, he⟩
      · exact .inl (.tail _ hp)
    | there _ ih =>
      intro p hp
      rcases List.mem_cons.mp hp with rfl | hp
      · exact .inl (.head _)
      · rcases ih he p hp with h | ⟨h1, e', h2, h3⟩
        · exact .inl (.tail _ h)
        · exact .inr ⟨h1, e', .tail _ h2, h3⟩
  intro s X W ok
  exact ok.forget key (by rw [← h.put.keys]; exact ok.nd)

/- a masked list is grown -/
theorem OkP.grow {P : List Pr} {s : Shared} {a : Addr} {h' : Heap} {tk : Nat} (ok : OkP X W P ρ s) (w : a ∈ W) (f : X.sE.heap.get? a = Option.none) (hno : ∀ p ∈ ρ, ∀ ns, p.2 ≠ .ownD a ns) {vs : List Value} (hl : s.heap.PlainList a vs.toArray)
    (hsb : Heap.ExtBut a s.heap h') (hth : ∃ o, h'.get? a = some o) : OkP X W P ρ { s with heap := h', toks := tk } := by
  exact ⟨⟨⟨ok.ok.ext.ext.extBut f hsb, ok.ok.ext.gens, ok.ok.ext.os⟩, ok.ok.nd, fun p hp => (ok.ok.ent _ hp).grow w f (hno p hp) hl hsb, ok.ok.own, wal_grow ok.ok.wal hsb hth⟩, ok.prot.extButW hsb w⟩

/- what stands within a clause -/
noncomputable def inner (elt : Expr) (gens : List Comprehension) (e : Expr) (acc : Value) (env : Env) (j : Nat) : Sem Unit := match gens[j]? with
  | some g' => do
    let x ← eval g'.iter env
    standAt g'.iter.pos
    let x ← if g'.is_async != 0 then foldedIterable g'.iter x else foldedSetIterable g'.iter env x
    let _ ← runOwn (.compStart e j (← holding [x] (if g'.is_async != 0 then asyncIter x else pyIter x)) acc env) env
  | Option.none => do let _ ← call (.builtin "list.append") [acc, ← eval elt env]
theorem compTurn_list (elt : Expr) (gens : List Comprehension) (scope : Scope) (pos : Pos) (j : Nat) (it acc : Value) (env : Env) (t iter : Expr) (ifs : List Expr) (hg : gens[j]? = some ⟨t, iter, ifs, 0⟩) :
    compTurn (.ListComp elt gens scope pos) j it acc env = (standAt iter.pos >>= fun zz1 => pyNext it >>= fun r => match r with
      | Option.none => pure (.done .next)
      | some v => letOwnedTupleGo t it v >>= fun zz1 => PySem.assign t env v >>= fun zz1 =>
        (forIn ifs true fun c r => if r = true then do let ok ← isTrue c env (eval c env); pure (ForInStep.yield ok) else pure (ForInStep.yield r)) >>= fun ok =>
          if ok = true then inner elt gens (.ListComp elt gens scope pos) acc env (j + 1) >>= fun zz1 => again (.compLoop (.ListComp elt gens scope pos) j it acc env)
          else again (.compLoop (.ListComp elt gens scope pos) j it acc env)) := by
  unfold compTurn
  dsimp only
  rw [hg]
  dsimp only
  simp only [bne_self_eq_false, Bool.false_eq_true, if_false]
  congr 1
  funext _
  congr 1
  funext r
  cases r with
  | none => rfl
  | some v =>
    dsimp only
    congr 1
    funext _
    congr 1
    funext _
    congr 1
    funext ok
    cases ok with
    | false => rfl
    | true =>
      simp only [if_true]
      unfold inner
      cases gens[j + 1]? with
      | none => rfl
      | some g =>
        dsimp only
        cases h : (g.is_async != 0) with
        | true => simp only [if_true, bind_assoc, pure_bind]
        | false => simp only [Bool.false_eq_true, if_false, bind_assoc, pure_bind]

noncomputable def NoOwn (ρ : List (Str × Ent)) : Prop := ∀ p ∈ ρ, ∀ a ns, p.2 ≠ .ownD a ns
theorem PutU.noOwn {ρ ρ' : List (Str × Ent)} {x : Str} {e : Ent} (h : PutU ρ x e ρ') (he : ∀ a ns, e ≠ .ownD a ns) (n : NoOwn ρ) : NoOwn ρ' := by
  induction h with
  | here =>
    intro p hp
    rcases List.mem_cons.mp hp with rfl | hp
    · exact he
    · exact n p (.tail _ hp)
  | there _ ih =>
    intro p hp
    rcases List.mem_cons.mp hp with rfl | hp
    · exact n _ (.head _)
    · exact ih he (fun q hq => n q (.tail _ hq)) p hp
theorem LayOf.noOwn {B : Base} {ρp ρ : List (Str × Ent)} {ns : List (Str × NameKind)} (h : LayOf B ρp ns ρ) : NoOwn ρ := by
  intro p hp a ns e
  rcases h.cases p hp with ⟨hu, _⟩ | ⟨_, e', _, _, he⟩ | ⟨_, v, hv, _⟩
  · rw [hu] at e; cases e
  · rw [he] at e; exact absurd e (Ent.ro_own _ _ _)
  · rw [hv] at e; cases e
structure TgtC (X : Cx) (W : List Addr) (ρ : List (Str × Ent)) (t : Expr) (d : D) (ρ' : List (Str × Ent)) : Prop where
  tgt : Tgt X W ρ t d ρ'
  back : Back ρ' ρ
  noOwn : NoOwn ρ → NoOwn ρ'
theorem tgtC_name {x : Str} {p : Pos} {d : D} {ρ' : List (Str × Ent)} (F : Fine X) (hp : PutU ρ x (.val true d) ρ') : TgtC X W ρ (.Name x p) d ρ' :=
  ⟨tgt_name F hp.put, hp.back rfl, hp.noOwn fun zz1 zz2 e => by cases e⟩

/- what is run within -/
noncomputable def InnerOk (X : Cx) (W : List Addr) (acc : Addr) (elt : Expr) (gens : List Comprehension) (e : Expr) (j : Nat) (ρ : List (Str × Ent)) (out : List D) : Prop :=
  ∀ P s ds, OkP X W P ρ s → AccIs W s.heap acc ds → ds.length + out.length ≤ 1000000 → wpAny X.M X.A (inner elt gens e (.ref acc) X.env j) (fun zz1 s' => OkP X W P ρ s' ∧ AccIs W s'.heap acc (ds ++ out)) NoE s
structure AccAt (X : Cx) (W : List Addr) (acc : Addr) : Prop where
  mem : acc ∈ W
  fresh : X.sE.heap.get? acc = Option.none

theorem inner_emit {acc : Addr} {elt : Expr} {gens : List Comprehension} {e : Expr} {j : Nat} {v : D} (F : Fine X) (ac : AccAt X W acc) (no : NoOwn ρ) (hg : gens[j]? = Option.none) (h : Ev X W ρ .s elt v) : InnerOk X W acc elt gens e j ρ [v] := fun P s ds ok ha hz => by
  unfold inner
  rw [hg]
  show wpAny _ _ (do let x ← eval elt X.env; let _ ← call (.builtin "list.append") [.ref acc, x]; pure ()) _ _ s
  refine wpAny_bind (wpAny_mono (h s ok.ok) (fun x s₁ k => wpAny_bind ?_) fun zz1 zz2 x => x)
  obtain ⟨a, vs, e, hl, hr⟩ := ha.ext k.1.ext
  cases e
  have ok₁ := ok.mono k.1
  have hn := hr.length
  simp at hz
  refine wpAny_list_append_plain hl (fun h' hl' hsb => wpAny_pure ?_) (by rw [List.size_toArray, hn, sizeLine_eq]; (first | lia | omega))
  have hth : ∃ o, h'.get? acc = some o := by obtain ⟨_, ho⟩ := hl'; exact ⟨_, ho⟩
  refine ⟨ok₁.grow (tk := s₁.toks) ac.mem ac.fresh (fun p hp ns => no p hp acc ns) hl hsb.extBut hth, acc, vs ++ [x], rfl, by simpa using hl', ?_⟩
  exact (hr.extBut hsb.extBut (.inl ac.mem)).append (.cons (Rep.extBut k.2 hsb.extBut (.inl ac.mem)) .nil)

theorem comp_loop {acc : Addr} {elt : Expr} {gens : List Comprehension} {scope : Scope} {pos : Pos} {j : Nat} {t iter : Expr} {ifs : List Expr} (hg : gens[j]? = some ⟨t, iter, ifs, 0⟩) {α : Type} {xs : List α} {φ : α → D} {out : α → List D} (F : Fine X) (no : NoOwn ρ)
    (turn : ∀ x ∈ xs, ∃ ρ' c, TgtC X W ρ t (φ x) ρ' ∧ TstAll X W ρ' ifs c ∧ (c = true → NoOwn ρ' → InnerOk X W acc elt gens (.ListComp elt gens scope pos) (j + 1) ρ' (out x)) ∧ (c = false → out x = []))
    (hgo : ∀ it v M A E Q (s : Shared), (∃ o vs, s.heap.get? it = some o ∧ o.data = .fields vs ∧ (o.cls = .type "list_iterator" ∨ o.cls = .type "range_iterator")) → Q () s → wpAny M A (letOwnedTupleGo t (.ref it) v) Q E s)
    {P : List Pr} {s : Shared} {it : Addr} {G : List Pr} {ds : List D} (ok : OkP X W P ρ s) (hit : ItOk W s.heap it G (xs.map φ) 0) (hfr : X.sE.heap.get? it = Option.none) (hw : it ∉ W) (hp : ∀ o, Pr.obj it o ∉ P)
    (ha : AccIs W s.heap acc ds) (hz : ds.length + (xs.flatMap out).length ≤ 1000000) :
    codeAny X.M X.A (.compLoop (.ListComp elt gens scope pos) j (.ref it) (.ref acc) X.env) (fun r s' => r = .ok .next ∧ OkP X W P ρ s' ∧ AccIs W s'.heap acc (ds ++ xs.flatMap out)) s := by
  refine codeAny_loop rfl (fun k s' => ∃ i, k = xs.length + 1 - i ∧ i ≤ xs.length ∧ OkP X W P ρ s' ∧ ItOk W s'.heap it G (xs.map φ) i ∧ AccIs W s'.heap acc (ds ++ (xs.take i).flatMap out)) (fun k s₃ hI => ?_) (xs.length + 1) ⟨0, rfl, Nat.zero_le _, ok, hit, by simpa using ha⟩
  obtain ⟨i, rfl, hi, ok₃, hit₃, ha₃⟩ := hI
  show wpAny _ _ ((compTurn (.ListComp elt gens scope pos) j (.ref it) (.ref acc) X.env).onRaise (fun x => do noteFrame x X.env; theTreesLotGoes x)) _ _ s₃
  refine wpAny_onRaise (wpAny_mono (E := NoE) ?_ (fun zz1 zz2 x => x) fun zz1 zz2 x => x.elim)
  rw [compTurn_list _ _ _ _ _ _ _ _ _ _ _ hg]
  refine wpAny_bind (wpAny_standAt (wpAny_bind ?_))
  by_cases hlt : i < xs.length
  · have hd : (xs.map φ)[i]? = some (φ xs[i]) := by simp [hlt]
    refine it_next F ok₃ hit₃ hd hfr hw hp fun v s₄ ok₄ hit₄ rv mv₄ => ?_
    have ha₄ := mv₄ _ _ _ ha₃
    obtain ⟨o, vs, ho, hdo⟩ := hit₄.obj
    have hcls : o.cls = .type "list_iterator" ∨ o.cls = .type "range_iterator" := by
      generalize xs.map φ = zs at hit₄
      cases hit₄ with
      | list _ _ _ _ _ hi => obtain ⟨o', ho', hc, _⟩ := hi; rw [ho] at ho'; cases ho'; exact .inl hc
      | range hi => have e := ho.symm.trans hi; rw [Option.some.inj e]; exact .inr rfl
    refine wpAny_bind (hgo it v _ _ _ _ _ ⟨o, vs, ho, hdo, hcls⟩ ?_)
    obtain ⟨ρ', c, tg, tst, hin, hout⟩ := turn xs[i] (List.getElem_mem hlt)
    have ok₅ : OkP X W (.obj it o :: (G ++ P)) ρ s₄ := ⟨ok₄.ok, hit₄.allProt ho hw ok₄.prot⟩
    refine wpAny_bind (wpAny_mono (tg.tgt _ _ _ ok₅ rv) (fun zz1 s₅ h₅ => ?_) fun zz1 zz2 x => x)
    obtain ⟨ok₆, mv₅⟩ := h₅
    have ha₅ := mv₅ _ _ _ ha₄
    refine wpAny_bind (wpAny_mono (tst s₅ ok₆.ok) (fun b s₆ k => ?_) fun zz1 zz2 x => x)
    obtain ⟨k, rfl⟩ := k
    have ok₇ := ok₆.mono k
    have ha₆ := ha₅.ext k.ext
    have fin : ∀ s₇, OkP X W (.obj it o :: (G ++ P)) ρ' s₇ → AccIs W s₇.heap acc (ds ++ (xs.take i).flatMap out ++ out xs[i]) → ∃ m, m < xs.length + 1 - i ∧ ∃ i', m = xs.length + 1 - i' ∧ i' ≤ xs.length ∧ OkP X W P ρ s₇ ∧ ItOk W s₇.heap it G (xs.map φ) i' ∧ AccIs W s₇.heap acc (ds ++ (xs.take i').flatMap out) := fun s₇ ok₈ ha₈ => by
      refine ⟨xs.length + 1 - (i + 1), by (first | lia | omega), i + 1, rfl, hlt, ⟨tg.back _ _ _ ok₈.ok, fun p hp => ok₈.prot p (.tail _ (List.mem_append.mpr (.inr hp)))⟩, hit₄.prot ho ok₈.prot, ?_⟩
      have e : (xs.take (i + 1)).flatMap out = (xs.take i).flatMap out ++ out xs[i] := by
        rw [List.take_add_one, List.flatMap_append]
        simp [hlt]
      rw [e, ← List.append_assoc]
      exact ha₈
    cases b with
    | true =>
      simp only [if_true]
      have hlen : (ds ++ (xs.take i).flatMap out).length + (out xs[i]).length ≤ 1000000 := by
        have e : ((xs.take i).flatMap out).length + (out xs[i]).length ≤ (xs.flatMap out).length := by
          have e1 : xs.flatMap out = (xs.take (i + 1)).flatMap out ++ (xs.drop (i + 1)).flatMap out := by rw [← List.flatMap_append, List.take_append_drop]
          have e2 : (xs.take (i + 1)).flatMap out = (xs.take i).flatMap out ++ out xs[i] := by
            rw [List.take_add_one, List.flatMap_append]
            simp [hlt]
          rw [e1, e2, List.length_append, List.length_append]; (first | lia | omega)
        rw [List.length_append]; (first | lia | omega)
      refine wpAny_bind (wpAny_mono (hin rfl (tg.noOwn no) _ _ _ ok₇ ha₆ hlen) (fun zz1 s₇ h₇ => wpAny_pure ⟨rfl, fin s₇ h₇.1 h₇.2⟩) fun zz1 zz2 x => x)
    | false =>
      simp only [Bool.false_eq_true, if_false]
      exact wpAny_pure ⟨rfl, fin s₆ ok₇ (by rw [hout rfl, List.append_nil]; exact ha₆)⟩
  · have e : i = xs.length := by (first | lia | omega)
    subst e
    refine it_end F ok₃ hit₃ (by simp) hfr hw hp fun s₄ ok₄ mv₄ => ?_
    refine wpAny_pure ⟨rfl, ok₄, ?_⟩
    have := mv₄ _ _ _ ha₃
    rw [List.take_length] at this
    exact this

theorem comp_start {acc : Addr} {elt : Expr} {gens : List Comprehension} {scope : Scope} {pos : Pos} {j : Nat} {t iter : Expr} {ifs : List Expr} (hg : gens[j]? = some ⟨t, iter, ifs, 0⟩) {s : Shared} {it : Addr} {G : List Pr} {ds : List D} {i : Nat} {R : Result → Shared → Prop} (hit : ItOk W s.heap it G ds i)
    (h : codeAny X.M X.A (.compLoop (.ListComp elt gens scope pos) j (.ref it) (.ref acc) X.env) R s) : codeAny X.M X.A (.compStart (.ListComp elt gens scope pos) j (.ref it) (.ref acc) X.env) R s := by
  refine codeAny_of_tree ?_
  show wpAny _ _ ((compStart (.ListComp elt gens scope pos) j (.ref it) (.ref acc) X.env).onRaise (fun x => do noteFrame x X.env; standAt theWindowsPlace)) _ _ s
  refine wpAny_onRaise (wpAny_mono (E := NoE) ?_ (fun zz1 zz2 x => x) fun zz1 zz2 x => x.elim)
  unfold compStart
  have hc : (clausesOf (.ListComp elt gens scope pos))[j]? = some ⟨t, iter, ifs, 0⟩ := hg
  rw [hc]
  show wpAny _ _ (ask >>= _) _ _ s
  refine wpAny_bind (wpAny_askSetting (wpAny_ite ?_))
  split
  · first
      | exact wpAny_bind (wpAny_pure (wpAny_pure (And.intro rfl h)))
      | exact wpAny_pure (And.intro rfl h)
  · have hp : wpAny X.M X.A (pyIter (.ref it)) (fun v s' => v = .ref it ∧ s' = s) NoE s := by
      cases hit with
      | list _ _ _ _ _ hi => exact wpAny_pyIter_listiter hi ⟨rfl, rfl⟩
      | range hi => exact wpAny_pyIter_rangeiter hi ⟨rfl, rfl⟩
    have fin : wpAny X.M X.A (pyIter (.ref it) >>= fun v => again (.compLoop (.ListComp elt gens scope pos) j v (.ref acc) X.env)) (fun fin s' => match fin with
      | .done f => R (.ok f) s'
      | .again c' => c'.quiet = true ∧ codeAny X.M X.A c' R s') NoE s :=
      wpAny_bind (wpAny_mono hp (fun v s' q => by obtain ⟨rfl, rfl⟩ := q; exact wpAny_pure (And.intro rfl h)) fun zz1 zz2 x => x)
    first
      | exact wpAny_bind (wpAny_rule (wpAny_bind (wpAny_standAt fin)))
      | (refine wpAny_bind (wpAny_rule ?_); show wpAny _ _ (standAt iter.pos >>= _) _ _ s; exact wpAny_bind (wpAny_standAt fin))

theorem inner_gen {acc : Addr} {elt : Expr} {gens : List Comprehension} {scope : Scope} {pos : Pos} {j : Nat} {t iter : Expr} {ifs : List Expr} (hg : gens[j]? = some ⟨t, iter, ifs, 0⟩) {α : Type} {xs : List α} {φ : α → D} {out : α → List D} (F : Fine X) (no : NoOwn ρ)
    (src : Src X W ρ iter (xs.map φ))
    (turn : ∀ x ∈ xs, ∃ ρ' c, TgtC X W ρ t (φ x) ρ' ∧ TstAll X W ρ' ifs c ∧ (c = true → NoOwn ρ' → InnerOk X W acc elt gens (.ListComp elt gens scope pos) (j + 1) ρ' (out x)) ∧ (c = false → out x = []))
    (hf : ∀ env x, foldedSetIterable iter env x = pure x := by intro _ _; rfl)
    (hgo : ∀ it v M A E Q (s : Shared), (∃ o vs, s.heap.get? it = some o ∧ o.data = .fields vs ∧ (o.cls = .type "list_iterator" ∨ o.cls = .type "range_iterator")) → Q () s → wpAny M A (letOwnedTupleGo t (.ref it) v) Q E s := by intro _ _ _ _ _ _ _ _ q; exact wpAny_pure q) :
    InnerOk X W acc elt gens (.ListComp elt gens scope pos) j ρ (xs.flatMap out) := fun P s ds ok ha hz => by
  unfold inner
  rw [hg]
  show wpAny _ _ (eval iter X.env >>= fun x => standAt iter.pos >>= fun zz1 => foldedSetIterable iter X.env x >>= fun x => holding [x] (pyIter x) >>= fun it => runOwn (.compStart (.ListComp elt gens scope pos) j it (.ref acc) X.env) X.env >>= fun zz1 => pure ()) _ _ s
  refine wpAny_bind (wpAny_mono (src s ok.ok) (fun v s₁ k₁ => wpAny_bind (wpAny_standAt ?_)) fun zz1 zz2 x => x)
  rw [hf, pure_bind]
  refine wpAny_bind (wpAny_holding (it_start F (ok.ok.mono k₁.1) k₁.2 fun it G s₂ k₂ hit hfr => ?_))
  have kk := k₁.1.trans k₂
  have ok₂ := ok.mono kk
  have hfE : X.sE.heap.get? it = Option.none := (ok.ok.ext.trans k₁.1.wider).ext.fresh hfr
  have hw : it ∉ W := fun z => by obtain ⟨o, ho⟩ := (ok.ok.mono k₁.1).wal it z; rw [hfr] at ho; cases ho
  have hpP : ∀ o, Pr.obj it o ∉ P := fun o z => by
    have y := (ok.mono k₁.1).prot _ z
    have y1 := y.1
    rw [hfr] at y1; cases y1
  refine wpAny_bind (wpAny_runOwn ?_)
  refine codeAny_mono (comp_start hg hit (comp_loop hg F no turn hgo ok₂ hit hfE hw hpP (ha.ext kk.ext) hz)) fun r s' q => ?_
  obtain ⟨rfl, q⟩ := q
  exact wpAny_pure q
end
end Mine



namespace Mine
open PySem PyProof.Rows

/- the frame of a comprehension -/
theorem env_comp {X : Cx} {W : List Addr} {ρ ρc : List (Str × Ent)} {s₂ s₃ : Shared} {scope : Scope} {acc : Addr} {A' : Around} {Q : Env → Shared → Prop} (F : Fine X) (hs₂ : Ok X W ρ s₂) (k : SExt [] s₂ s₃) (hacc : s₂.heap.get? acc = Option.none) (hacc' : ∃ o, s₃.heap.get? acc = some o)
    (nd : (scope.names.map (·.1)).Nodup) (hk : scope.kind = .function) (hκ : ∀ x, (x, NameKind.free) ∈ scope.names → x ∈ X.κ) (lo : LayOf X.B ρ scope.names ρc)
    (q : ∀ env s', env.locals = s₃.heap.objs.size →
      Fine ⟨X.B, X.A, { env with scope := relabel scope X.env }, s₂, X.n, [], closable scope.names⟩ →
      OkP ⟨X.B, X.A, { env with scope := relabel scope X.env }, s₂, X.n, [], closable scope.names⟩ (acc :: W) [] ρc s' → (∀ b o, s₃.heap.get? b = some o → s'.heap.get? b = some o) → Q env s') :
    wpAny X.M A' (newFunctionEnv scope X.env.globals (clos X.env scope.names []) [] X.env.qual Option.none .none (some X.env)) Q NoE s₃ := by
  have hs₃ := hs₂.mono k
  have hbase : Ext X.B.T X.B.h₁ s₂.heap := Ok.base (X := X) F hs₂
  have cellOf' : ∀ x, (x, NameKind.free) ∈ scope.names → ∃ c ov, X.env.cells.lookup x = some c ∧ s₃.heap.IsCell c ov ∧ ∀ e, (x, e) ∈ ρ → e.known = true → ∃ v, ov = some v ∧ EntOk s₂.heap (acc :: W) s₃.heap (some v) e.ro := by
    intro x hx
    obtain ⟨e₀, hm₀, hkn₀⟩ := lo.free_mem x hx
    obtain ⟨v₀, z, _⟩ | ⟨⟨ov, h1, h2⟩, _⟩ := hs₃.ent _ hm₀
    · have z' : e₀ = .gl v₀ := z
      rw [z'] at hkn₀; cases hkn₀
    have kd := F.kd x (hκ x hx)
    rcases h1 with ⟨a, _⟩ | ⟨a, c, e, n⟩
    · have a' : X.env.kindOf x = some .local := a
      rw [a'] at kd; rcases kd with z | z <;> cases z
    · refine ⟨c, ov, e, n, fun e₁ hm₁ hkn₁ => ?_⟩
      have he : e₁ = e₀ := nodup_unique hs₃.nd hm₁ hm₀
      subst he
      have msk : ∀ {v : Value} {d : D}, Rep W s₂.heap v d → Rep (acc :: W) s₃.heap v d := fun r => r.mask k.ext.strict hacc
      obtain ⟨v₀, z, _⟩ | ⟨⟨ov₂, h1₂, h2₂⟩, _⟩ := hs₂.ent _ hm₀
      · have z' : e₁ = .gl v₀ := z
        rw [z'] at hkn₀; cases hkn₀
      have same : ov₂ = ov := by
        rcases h1₂ with ⟨a', _⟩ | ⟨_, c', e', n'⟩
        · have a'' : X.env.kindOf x = some .local := a'
          rw [a''] at kd; rcases kd with z | z <;> cases z
        · rw [e] at e'; cases e'
          obtain ⟨o, ho, hd⟩ := n'
          obtain ⟨o', ho', hd'⟩ := n
          have := k.ext.strict _ _ ho
          rw [this] at ho'; cases ho'
          rw [hd] at hd'; cases hd'; rfl
      subst same
      cases e₁ with
      | un => cases hkn₀
      | gl v => cases hkn₀
      | val b d =>
        obtain ⟨v, e, r⟩ := h2₂
        exact ⟨v, e, v, rfl, msk r⟩
      | tmp b d =>
        obtain ⟨v, e, r, ex⟩ := h2₂
        refine ⟨v, e, v, rfl, ?_, fun b' e' => ?_⟩
        · cases d with
          | list ds =>
            obtain ⟨a', vs, rfl, hl, hr⟩ := r
            exact ⟨a', vs, rfl, Mine.Heap.IsList.map hl (k.ext.strict a'), hr.mask k.ext.strict hacc⟩
          | _ => exact msk r
        · obtain ⟨o, ho⟩ := ex b' e'
          exact hs₂.ext.ext.there b' o ho
      | ownD a' ns =>
        obtain ⟨e, w, f, vs, hl, hr⟩ := h2₂
        refine ⟨_, e, _, rfl, ⟨a', vs, rfl, Mine.Heap.IsList.map hl (k.ext.strict a'), hr.mask k.ext.strict hacc⟩, fun b' e' => ?_⟩
        cases e'
        obtain ⟨_, ho⟩ := hl
        exact ⟨_, ho⟩
  simp only [newFunctionEnv, Option.isSome_some, if_true]
  refine wpAny_bind (wpAny_alloc ?_)
  refine wpAny_bind (wpAny_layCells _ (fun name kind cells => by cases hkc : kind == NameKind.cell <;> simp [hkc]) _ _ _ _ ?_)
  rw [show ({ s₃ with heap := s₃.heap.push { cls := .type "dict", data := .dict #[] } } : Shared).heap.objs.size = s₃.heap.objs.size + 1 from Heap.size_push ..]
  have clo_of : ∀ x c, (clos X.env scope.names []).lookup x = some c → (x, NameKind.free) ∈ scope.names ∧ X.env.cells.lookup x = some c := fun x c h => by
    obtain ⟨h1, h2⟩ := clos_lookup h
    obtain ⟨c', _, e, _⟩ := cellOf' x h1
    rw [e] at h2 ⊢
    exact ⟨h1, by rw [h2]; rfl⟩
  have la := laid1 (h := s₃.heap) (names := scope.names) (closure := clos X.env scope.names []) nd (.type "dict")
    (fun x y c h1 h2 => F.cells x y c (clo_of x c h1).2 (clo_of y c h2).2)
    (fun x c h1 => by
      obtain ⟨c', ov, e, n, _⟩ := cellOf' x (clo_of x c h1).1
      rw [(clo_of x c h1).2] at e; cases e
      obtain ⟨o, ho, _⟩ := n; exact ⟨o, ho⟩)
  generalize hcs : cellsFrom (s₃.heap.objs.size + 1) scope.names (clos X.env scope.names []) = cells at la ⊢
  generalize henv : ({ scope := scope, locals := s₃.heap.objs.size, globals := X.env.globals, cells := cells, qual := X.env.qual, func := Option.none, code := X.env.code, frame := X.env.frame, builtins := X.env.builtins } : Env) = env
  have elo : env.locals = s₃.heap.objs.size := by rw [← henv]
  have ece : env.cells = cells := by rw [← henv]
  have kk : ∀ x k, (x, k) ∈ scope.names → Env.kindOf { env with scope := relabel scope X.env } x = some (if (k == NameKind.free && X.env.scope.kind == ScopeKind.function && X.env.kindOf x == some NameKind.cell) then NameKind.cell else k) :=
    fun x k h => relabel_mem nd h
  have kf : ∀ x, (x, NameKind.free) ∈ scope.names → Env.kindOf { env with scope := relabel scope X.env } x = some .cell ∨ Env.kindOf { env with scope := relabel scope X.env } x = some .free := fun x h => by
    rw [kk x _ h]
    split
    · exact .inl rfl
    · exact .inr rfl
  have F' : Fine ⟨X.B, X.A, { env with scope := relabel scope X.env }, s₂, X.n, [], closable scope.names⟩ :=
    ⟨hk, by rw [← henv]; exact F.globals, by rw [← henv]; exact F.builtins, hbase, (fun zz1 h => nomatch h), (fun x hx => by
      rcases closable_mem hx with h | h
      · exact .inl (kk x _ h)
      · exact kf x h), F.hnd, F.dep, F.uni, fun x y c h1 h2 => la.inj x y c (by rw [← ece]; exact h1) (by rw [← ece]; exact h2)⟩
  have ok : OkP ⟨X.B, X.A, { env with scope := relabel scope X.env }, s₂, X.n, [], closable scope.names⟩ (acc :: W) [] ρc { s₃ with heap := _, toks := s₃.toks } :=
    ok_new (X := ⟨X.B, X.A, { env with scope := relabel scope X.env }, s₂, X.n, [], closable scope.names⟩) (s₃ := s₃) k nd la lo elo ece (fun x h => kk x _ h) (fun x h => kk x _ h) (fun x h => kk x _ h) kf
      (fun x e hm hkn hx => by
        obtain ⟨c, ov, e', n, r⟩ := cellOf' x hx
        obtain ⟨v, rfl, r'⟩ := r e hm hkn
        exact ⟨c, v, by rw [clos_some hx, e']; rfl, n, r'⟩)
      (fun a ha => by
        rcases List.mem_cons.mp ha with rfl | ha
        · exact hacc'
        · exact hs₃.wal a ha) fun p hp => (nomatch hp)
  refine wpAny_bind ?_
  rw [List.forIn_nil]
  exact wpAny_pure (wpAny_pure (q env _ elo F' ok la.keep))

section
variable {X : Cx} {W : List Addr} {ρ : List (Str × Ent)}
/- a comprehension -/
theorem comp_gen {elt : Expr} {t iter : Expr} {ifs : List Expr} {rest : List Comprehension} {scope : Scope} {pos : Pos} {α : Type} {xs : List α} {φ : α → D} {out : α → List D} {ρc : List (Str × Ent)} (F : Fine X)
    (nd : (scope.names.map (·.1)).Nodup) (hk : scope.kind = .function) (hκ : ∀ x, (x, NameKind.free) ∈ scope.names → x ∈ X.κ) (hloc : ∃ x, (x, NameKind.local) ∈ scope.names) (lo : LayOf X.B ρ scope.names ρc) (src : Src X W ρ iter (xs.map φ))
    (turn : ∀ X' W' acc, X'.B = X.B → X'.n = X.n → X'.κ = closable scope.names → Fine X' → AccAt X' W' acc → ∀ x ∈ xs, ∃ ρ' c, TgtC X' W' ρc t (φ x) ρ' ∧ TstAll X' W' ρ' ifs c ∧
      (c = true → NoOwn ρ' → InnerOk X' W' acc elt (⟨t, iter, ifs, 0⟩ :: rest) (.ListComp elt (⟨t, iter, ifs, 0⟩ :: rest) scope pos) 1 ρ' (out x)) ∧ (c = false → out x = []))
    (hz : (xs.flatMap out).length ≤ 1000000)
    (hf : ∀ env x, foldedSetIterable iter env x = pure x)
    (hgo : ∀ it v M A E Q (s : Shared), (∃ o vs, s.heap.get? it = some o ∧ o.data = .fields vs ∧ (o.cls = .type "list_iterator" ∨ o.cls = .type "range_iterator")) → Q () s → wpAny M A (letOwnedTupleGo t (.ref it) v) Q E s)
    {use : Option (Value → Sem Unit)} {s : Shared} {Q : Value → Shared → Prop} (hs : Ok X W ρ s)
    (q : ∀ acc C s', s.heap.get? C = Option.none → (∃ m, s'.heap.Ns C m) → SExt [] s s' → Post .f W s.heap (.ref acc) s'.heap (.list (xs.flatMap out)) → AccIs (acc :: W) s'.heap acc (xs.flatMap out) → compPost X.M X.A NoE use Q (.ref acc) C (.ok .next) s') :
    wpAny X.M X.A (comprehension (.ListComp elt (⟨t, iter, ifs, 0⟩ :: rest) scope pos) scope X.env (firstIterPos (⟨t, iter, ifs, 0⟩ :: rest) pos) (newList []) false (eval iter X.env) use) Q NoE s := by
  have hcells : ∀ x, (x, NameKind.free) ∈ scope.names → ∃ c, X.env.cells.lookup x = some c := by
    intro x hx
    obtain ⟨e₀, hm₀, hkn₀⟩ := lo.free_mem x hx
    obtain ⟨v₀, z, _⟩ | ⟨⟨ov, h1, h2⟩, _⟩ := hs.ent _ hm₀
    · have z' : e₀ = .gl v₀ := z
      rw [z'] at hkn₀; cases hkn₀
    have kd := F.kd x (hκ x hx)
    rcases h1 with ⟨a, _⟩ | ⟨a, c, e, n⟩
    · have a' : X.env.kindOf x = some .local := a
      rw [a'] at kd; rcases kd with z | z <;> cases z
    · exact ⟨c, e⟩
  refine wpAny_comprehension_free (g := ⟨t, iter, ifs, 0⟩) (gs := rest) rfl (hf _) (closureFor_clos hcells) hk (fun x hx hl => by obtain ⟨n, k⟩ := x; dsimp only at hl; subst hl; exact nodup_lookup nd hx) ?_
  refine wpAny_mono (src s hs) (fun v s₁ k₁ => ?_) fun zz1 zz2 x => x
  have hs₁ := hs.mono k₁.1
  refine it_start F hs₁ k₁.2 fun it G s₂ k₂ hit hfr => ?_
  refine wpAny_newObj_type (hd := by size_fits) ?_
  have hacc : s₂.heap.get? s₂.heap.objs.size = Option.none := get_size _
  have kp := k₂.trans (sext_push (T := []) s₂ { cls := .type "list", dict := Option.none, data := .seq ([] : List Value).toArray })
  have hacc₁ : s₁.heap.get? s₂.heap.objs.size = Option.none := k₂.ext.fresh hacc
  have hget : (s₂.heap.push { cls := .type "list", dict := Option.none, data := .seq ([] : List Value).toArray }).get? s₂.heap.objs.size = some { cls := .type "list", dict := Option.none, data := .seq ([] : List Value).toArray } := Heap.get?_push_size _ rfl
  refine env_comp F hs₁ kp hacc₁ ⟨_, hget⟩ nd hk hκ lo fun env s' elo F' ok keep => ?_
  have hne : ∀ b o, s₂.heap.get? b = some o → s'.heap.get? b = some o := fun b o e => keep b o (Heap.get?_push_of_some _ e)
  have hit' : ItOk (s₂.heap.objs.size :: W) s'.heap it G (xs.map φ) 0 := by
    generalize xs.map φ = zs at hit
    cases hit with
    | @list l o vs ds i ep hl hc hd hw hr hi =>
      refine .list (hne _ _ hl) hc hd (fun z => ?_) (hr.mask hne hacc) ?_
      · rcases List.mem_cons.mp z with z | z
        · rw [z, hacc] at hl; cases hl
        · exact hw z
      · obtain ⟨o', ho', r'⟩ := hi; exact ⟨o', hne _ _ ho', r'⟩
    | range hi => exact .range (hne _ _ hi)
  have hwit : it ∉ s₂.heap.objs.size :: W := fun z => by
    obtain ⟨o, _, ho, _⟩ := hit.obj
    rcases List.mem_cons.mp z with z | z
    · rw [z, hacc] at ho; cases ho
    · obtain ⟨o', ho'⟩ := hs₁.wal it z; rw [hfr] at ho'; cases ho'
  have hacc' : AccIs (s₂.heap.objs.size :: W) s'.heap s₂.heap.objs.size [] := ⟨_, [], rfl, ⟨_, keep _ _ hget⟩, .nil⟩
  have ac : AccAt ⟨X.B, X.A, { env with scope := relabel scope X.env }, s₁, X.n, [], closable scope.names⟩ (s₂.heap.objs.size :: W) s₂.heap.objs.size := ⟨.head _, hacc₁⟩
  have main := comp_start (X := ⟨X.B, X.A, { env with scope := relabel scope X.env }, s₁, X.n, [], closable scope.names⟩) (W := s₂.heap.objs.size :: W) (acc := s₂.heap.objs.size) (elt := elt) (gens := ⟨t, iter, ifs, 0⟩ :: rest) (scope := scope) (pos := pos) (j := 0) rfl hit'
    (comp_loop (X := ⟨X.B, X.A, { env with scope := relabel scope X.env }, s₁, X.n, [], closable scope.names⟩) (ρ := ρc) rfl F' lo.noOwn (turn _ _ _ rfl rfl rfl F' ac) hgo ok hit' hfr hwit (fun o z => nomatch z) hacc' (by simpa using hz))
  refine codeAny_mono main fun r s'' hr => ?_
  obtain ⟨rfl, ok'', ha''⟩ := hr
  have hns : ∃ m, s''.heap.Ns env.locals m := by
    obtain ⟨x, hx⟩ := hloc
    obtain ⟨v, z, _⟩ | ⟨⟨ov, h1, _⟩, _⟩ := ok''.ok.ent _ (lo.loc_mem x hx)
    · cases z
    · have kx : Env.kindOf { env with scope := relabel scope X.env } x = some .local := by
        have := relabel_mem (env := X.env) nd hx
        exact this
      rcases h1 with ⟨_, m, n, _⟩ | ⟨a, _⟩
      · exact ⟨m, n⟩
      · have a' : Env.kindOf { env with scope := relabel scope X.env } x = some .cell ∨ Env.kindOf { env with scope := relabel scope X.env } x = some .free := a
        rw [kx] at a'
        rcases a' with z | z <;> cases z
  rw [List.nil_append] at ha''
  refine q _ _ _ (by rw [elo]; exact k₁.1.ext.fresh (kp.ext.fresh (get_size _))) hns (k₁.1.trans ⟨ok''.ok.ext.ext, ok''.ok.ext.gens, ok''.ok.ext.os⟩) ?_ ha''
  obtain ⟨a, vs, e, hl, hr⟩ := ha''
  cases e
  refine ⟨.list hl (fun z => ?_) (hr.less fun a ha => .tail _ ha), fun b e => by cases e; exact k₁.1.ext.fresh hacc₁⟩
  obtain ⟨o, ho⟩ := hs₁.wal _ z
  rw [hacc₁] at ho; cases ho

theorem ev_comp {elt : Expr} {t iter : Expr} {ifs : List Expr} {rest : List Comprehension} {scope : Scope} {pos : Pos} {α : Type} {xs : List α} {φ : α → D} {out : α → List D} {ρc : List (Str × Ent)} (F : Fine X)
    (nd : (scope.names.map (·.1)).Nodup) (hk : scope.kind = .function) (hκ : ∀ x, (x, NameKind.free) ∈ scope.names → x ∈ X.κ) (hloc : ∃ x, (x, NameKind.local) ∈ scope.names) (lo : LayOf X.B ρ scope.names ρc) (src : Src X W ρ iter (xs.map φ))
    (turn : ∀ X' W' acc, X'.B = X.B → X'.n = X.n → X'.κ = closable scope.names → Fine X' → AccAt X' W' acc → ∀ x ∈ xs, ∃ ρ' c, TgtC X' W' ρc t (φ x) ρ' ∧ TstAll X' W' ρ' ifs c ∧
      (c = true → NoOwn ρ' → InnerOk X' W' acc elt (⟨t, iter, ifs, 0⟩ :: rest) (.ListComp elt (⟨t, iter, ifs, 0⟩ :: rest) scope pos) 1 ρ' (out x)) ∧ (c = false → out x = []))
    (hz : (xs.flatMap out).length ≤ 1000000)
    (hf : ∀ env x, foldedSetIterable iter env x = pure x := by intro _ _; rfl)
    (hgo : ∀ it v M A E Q (s : Shared), (∃ o vs, s.heap.get? it = some o ∧ o.data = .fields vs ∧ (o.cls = .type "list_iterator" ∨ o.cls = .type "range_iterator")) → Q () s → wpAny M A (letOwnedTupleGo t (.ref it) v) Q E s := by intro _ _ _ _ _ _ _ _ q; exact wpAny_pure q) :
    Ev X W ρ .f (.ListComp elt (⟨t, iter, ifs, 0⟩ :: rest) scope pos) (.list (xs.flatMap out)) := fun s hs => by
  rw [eval_ListComp]
  refine comp_gen F nd hk hκ hloc lo src turn hz hf hgo (use := Option.none) hs fun acc C s' hC hns k p zz1 => ?_
  obtain ⟨m, hns⟩ := hns
  refine ⟨m, hns, fun h' hsb => ⟨⟨k.ext.sameBut hC hsb, k.gens, k.os⟩, p.1.extBut hsb.extBut (.inr (.ns hns)), p.2⟩⟩

/- the frame of a comprehension goes -/
theorem OkP.drop {P : List Pr} {s : Shared} {C : Addr} {m : Str → Option Value} {h' : Heap} (ok : OkP X W P ρ s) (hC' : X.sE.heap.get? C = Option.none) (hns : s.heap.Ns C m) (hsb : Heap.SameBut C s.heap h') (hL : ∀ p ∈ ρ, X.env.kindOf p.1 = some .local → C ≠ X.env.locals) (hW : C ∉ W) :
    OkP X W P ρ { s with heap := h' } := by
  refine ⟨⟨⟨ok.ok.ext.ext.sameBut hC' hsb, ok.ok.ext.gens, ok.ok.ext.os⟩, ok.ok.nd, fun p hp' => ?_, ok.ok.own, fun b hb => ?_⟩, ok.prot.extBut hsb.extBut (notFixed_ns hns) (.ns hns)⟩
  · obtain g | ⟨⟨ov, h1, h2⟩, h3⟩ := ok.ok.ent p hp'
    · exact .inl g
    · refine .inr ⟨⟨ov, ?_, h2.extBut hsb.extBut (.ns hns)⟩, h3⟩
      rcases h1 with ⟨a, m', n', e⟩ | ⟨a, c, e, n'⟩
      · exact .inl ⟨a, m', n'.sameBut hsb (hL p hp' a).symm, e⟩
      · exact .inr ⟨a, c, e, n'.sameBut hsb (ns_ne_cell hns n').symm⟩
  · obtain ⟨o, ho⟩ := ok.ok.wal b hb
    exact ⟨o, hsb.extBut b o (fun z => hW (z ▸ hb)) ho⟩
/- x = [..] with the comprehension on the right -/
theorem assign_comp {x : Str} {p spos : Pos} {elt : Expr} {t iter : Expr} {ifs : List Expr} {rest : List Comprehension} {scope : Scope} {pos : Pos} {α : Type} {xs : List α} {φ : α → D} {out : α → List D} {ρc ρ' : List (Str × Ent)} {sts : List Stmt} {N : Nrm} {R : Rtn} (F : Fine X)
    (nd : (scope.names.map (·.1)).Nodup) (hk : scope.kind = .function) (hκ : ∀ x, (x, NameKind.free) ∈ scope.names → x ∈ X.κ) (hloc : ∃ x, (x, NameKind.local) ∈ scope.names) (lo : LayOf X.B ρ scope.names ρc) (src : Src X W ρ iter (xs.map φ))
    (turn : ∀ X' W' acc, X'.B = X.B → X'.n = X.n → X'.κ = closable scope.names → Fine X' → AccAt X' W' acc → ∀ x ∈ xs, ∃ ρ' c, TgtC X' W' ρc t (φ x) ρ' ∧ TstAll X' W' ρ' ifs c ∧
      (c = true → NoOwn ρ' → InnerOk X' W' acc elt (⟨t, iter, ifs, 0⟩ :: rest) (.ListComp elt (⟨t, iter, ifs, 0⟩ :: rest) scope pos) 1 ρ' (out x)) ∧ (c = false → out x = []))
    (hz : (xs.flatMap out).length ≤ 1000000) (hp : Put ρ x (.val true (.list (xs.flatMap out))) ρ') (n : Blk X W ρ' sts N R)
    (hf : ∀ env x, foldedSetIterable iter env x = pure x := by intro _ _; rfl)
    (hgo : ∀ it v M A E Q (s : Shared), (∃ o vs, s.heap.get? it = some o ∧ o.data = .fields vs ∧ (o.cls = .type "list_iterator" ∨ o.cls = .type "range_iterator")) → Q () s → wpAny M A (letOwnedTupleGo t (.ref it) v) Q E s := by intro _ _ _ _ _ _ _ _ q; exact wpAny_pure q) :
    Blk X W ρ (.Assign [.Name x p] (.ListComp elt (⟨t, iter, ifs, 0⟩ :: rest) scope pos) spos :: sts) N R := by
  have sw : ∃ b, swapsWith (.ListComp elt (⟨t, iter, ifs, 0⟩ :: rest) scope pos) (some (.Name x p)) spos.line X.env = pure b := ⟨_, rfl⟩
  obtain ⟨b, hb⟩ := sw
  refine blk_cons fun P s ok => ?_
  cases b with
  | false =>
    refine wpAny_Assign_Name (wpAny_mono (ev_comp F nd hk hκ hloc lo src turn hz hf hgo s ok.ok) (fun v s₁ k => store_val F (ok.mono k.1) hp k.2.1 fun s' ok' zz1 => n P s' ok') fun zz1 zz2 x => x) hb
  | true =>
    rw [exec_Assign_Name_used _ _ _ _ hb]
    refine wpAny_bind (wpAny_standAt (wpAny_bind ?_))
    show wpAny _ _ (comprehension (.ListComp elt (⟨t, iter, ifs, 0⟩ :: rest) scope pos) scope X.env (firstIterPos (⟨t, iter, ifs, 0⟩ :: rest) pos) (newList []) false (eval iter X.env) (some (PySem.assign (.Name x p) X.env)) >>= fun zz1 => pure ()) _ _ s
    refine wpAny_bind (comp_gen F nd hk hκ hloc lo src turn hz hf hgo (use := some (PySem.assign (.Name x p) X.env)) ok.ok fun acc C s' hC hns k p zz1 => ?_)
    obtain ⟨m, hns⟩ := hns
    have hL : ∀ y e, (y, e) ∈ ρ → X.env.kindOf y = some .local → C ≠ X.env.locals := fun y e hm hky z => by
      obtain ⟨v, z', hg, _⟩ | ⟨⟨ov, h1, _⟩, _⟩ := ok.ok.ent _ hm
      · rw [hky] at hg; cases hg
      · rcases h1 with ⟨_, m', n', _⟩ | ⟨a, _⟩
        · obtain ⟨o, _, _, ho, _⟩ := n'
          rw [← z, hC] at ho; cases ho
        · have a' : X.env.kindOf y = some .cell ∨ X.env.kindOf y = some .free := a
          rw [hky] at a'; rcases a' with z | z <;> cases z
    obtain ⟨e₀, hm₀, _⟩ := hp.mem
    refine wpAny_assign_Name (store_ok2 F (ok.mono k) hp ⟨_, rfl, p.1⟩ (fun zz1 zz2 e => by cases e) fun s'' ok'' zz1 hn => ?_)
    have hns'' := hn C m hns (hL x e₀ hm₀)
    refine ⟨m, hns'', fun h' hsb => wpAny_pure (wpAny_pure (n P _ ?_))⟩
    refine ok''.drop (ok.ok.ext.ext.fresh hC) hns'' hsb (fun q hq hk => ?_) fun z => ?_
    · have hkey : q.1 ∈ ρ.map (·.1) := by rw [← hp.keys]; exact List.mem_map_of_mem hq
      obtain ⟨⟨y, e'⟩, hm, hy⟩ := List.mem_map.mp hkey
      have hy' : y = q.1 := hy
      exact hL y e' hm (by rw [hy']; exact hk)
    · obtain ⟨o', ho'⟩ := ok.ok.wal C z; rw [hC] at ho'; cases ho'

theorem kap {scope : Scope} (h : ((scope.names.filter fun p => p.2 == NameKind.free).all fun p => X.κ.contains p.1) = true) : ∀ x, (x, NameKind.free) ∈ scope.names → x ∈ X.κ := by
  intro x hx
  have := List.all_eq_true.mp h (x, .free) (List.mem_filter.mpr ⟨hx, rfl⟩)
  simpa using this
end
end Mine



namespace Mine
open PySem PyProof.Rows

section
variable {X : Cx} {W : List Addr} {ρ : List (Str × Ent)}

theorem reps_intsAre {h : Heap} {vs : List Value} {ns : List Int} (r : Reps W h vs (ns.map .int)) : IntsAre vs ns := by
  induction ns generalizing vs with
  | nil => cases r; exact .nil
  | cons n ns ih => cases r with | cons a b => cases a; exact .cons _ _ (ih b)
theorem intsAre_reps {h : Heap} {vs : List Value} {ns : List Int} (r : IntsAre vs ns) : Reps W h vs (ns.map .int) := by
  induction r with
  | nil => exact .nil
  | cons n t _ ih => exact .cons (.int _ _) ih

/- methods -/
noncomputable def GetM (X : Cx) (W : List Addr) (d₀ : D) (name : Str) (f : Value) (bound : Bool) : Prop :=
  ∀ s ρ ov pl, Fine X → Ok X W ρ s → RepT W s.heap ov d₀ → wpAny X.M X.A (getMethod ov name pl) (fun fx s' => SExt [] s s' ∧ fx = (f, if bound then [ov] else [])) NoE s
theorem callWith_F {f : Value} {first : List Value} {args : List (Bool × Sem Value)} {pos : Pos} {s : Shared} {Q : Value → Shared → Prop} {V : List Value → Heap → Prop} (F : Fine X) (hs : Ok X W ρ s)
    (ha : wpAny X.M X.A (spliced args) (fun vs s' => SExt [] s s' ∧ V vs s'.heap) NoE s) (hk : KeepOk X W f)
    (hc : ∀ vs s₁, SExt [] s s₁ → V vs s₁.heap → wpAny X.M X.A (call f (first ++ vs) []) Q NoE s₁)
    (hst : args.any (·.1) = false) : wpAny X.M X.A (callWith pos f first args []) Q NoE s := by
  unfold callWith
  refine wpAny_bind (wpAny_holding (evalArgs_noStar hst (wpAny_mono ha (fun vs s₁ h₁ => wpAny_bind (wpAny_standAt ?_)) fun zz1 zz2 x => x)))
  have hs₁ := hs.mono h₁.1
  have main : wpAny X.M X.A (call f (first ++ vs) []) Q NoE s₁ := hc vs s₁ h₁.1 h₁.2
  have tail : ∀ {t : Sem Value}, wpAny X.M X.A t Q NoE s₁ → wpAny X.M X.A (t >>= fun r => holding [r] point >>= fun zz1 => pure r) Q NoE s₁ :=
    fun ht => wpAny_bind (wpAny_mono ht (fun r s₂ hr => wpAny_bind (wpAny_holding (wpAny_point (wpAny_pure hr)))) fun zz1 zz2 x => x)
  simp only [hst, List.any_nil, Bool.or_false]
  refine wpAny_bind (wpAny_mono (hk s₁ ρ F hs₁) (fun k s₂ e => ?_) fun zz1 zz2 x => x)
  subst e
  cases k with
  | frame =>
    dsimp only
    split
    · exact tail main
    · exact tail (by unfold callMarked; exact Calls.wpAny_keep main)
  | boundFrame =>
    dsimp only
    split
    · exact tail main
    · exact tail (by unfold callMarked; exact Calls.wpAny_keep main)
  | machine => exact tail main
  | caller => exact tail (wpAny_operateT main)

/- o.name(args), the object handed as first -/
theorem ev_meth {lo l : Lv} {o : Expr} {name : Str} {apos pos : Pos} {args : List Expr} {d₀ d : D} {ds : List D} {f : Value} {b : Bool} {pl : Env → Sem Bool} (F : Fine X) (ho : Ev X W ρ lo o d₀) (hm : GetM X W d₀ name f b) (ha : EvTs X W ρ args ds) (hc : CallV X W f (if b then d₀ :: ds else ds) l d) (hk : KeepOk X W f)
    (he : ∀ env, eval (.Call (.Attribute o name apos) args [] pos) env = (do
      let ov ← eval o env
      standAt apos.atName
      let (f, first) ← holding [ov] (getMethod ov name (pl env))
      callWith pos f first (backTo pos (starEach args env)) (backToKw pos (keywordEach [] env))) := by intro _; rfl)
    (hst : ∀ env, (backTo pos (starEach args env)).any (·.1) = false := by intro _; rfl) : Ev X W ρ l (.Call (.Attribute o name apos) args [] pos) d := fun s hs => by
  rw [he]
  refine wpAny_bind (wpAny_mono (ho s hs) (fun ov s₁ k₁ => wpAny_bind (wpAny_standAt (wpAny_bind (wpAny_holding (wpAny_mono (hm s₁ ρ ov _ F (hs.mono k₁.1) k₁.2.toT) (fun fx s₂ k₂ => ?_) fun zz1 zz2 x => x))))) fun zz1 zz2 x => x)
  obtain ⟨k₂, rfl⟩ := k₂
  have kk := k₁.1.trans k₂
  show wpAny X.M X.A (callWith pos f (if b = true then [ov] else []) (backTo pos (starEach args X.env)) []) _ _ s₂
  refine callWith_F (V := fun vs h => RepTs W h vs ds) F (hs.mono kk) (ha pos s₂ (hs.mono kk)) hk (fun vs s₃ k₃ hv => ?_) (hst _)
  have hs₃ := hs.mono (kk.trans k₃)
  have r₀ : RepT W s₃.heap ov d₀ := (k₁.2.toT.ext k₂.ext).ext k₃.ext
  have hargs : RepTs W s₃.heap ((if b = true then [ov] else []) ++ vs) (if b then d₀ :: ds else ds) := by
    cases b with
    | true => exact .cons r₀ hv
    | false => exact hv
  exact wpAny_mono (hc s₃ ρ _ F hs₃ hargs) (fun v s' q => ⟨(kk.trans k₃).trans q.1, (q.2.back k₃).back kk⟩) fun zz1 zz2 x => x

end
end Mine



namespace Mine
open PySem PyProof.Rows

noncomputable def stAt (p : Program) (i : Nat) : Stmt := p.main.body.getD i (.Pass ⟨0, 0, 0, 0⟩)
noncomputable def fBody : Stmt → List Stmt
  | .FunctionDef _ _ b _ _ _ _ _ _ _ => b
  | _ => []
noncomputable def fArgs : Stmt → Arguments
  | .FunctionDef _ a _ _ _ _ _ _ _ _ => a
  | _ => ⟨[], [], Option.none, [], [], Option.none, []⟩
noncomputable def fScope : Stmt → Scope
  | .FunctionDef _ _ _ _ _ _ s _ _ _ => s
  | _ => ⟨.function, [], false, false, []⟩
structure IsDef (fd : FuncData) (st : Stmt) : Prop where
  body : fd.body = .stmts (fBody st)
  params : fd.params = fArgs st
  scope : fd.scope = fScope st
  defaults : fd.defaults = .none
  closure : fd.closure = []
/- a def of the text, where it stands -/
structure DefAt (B : Base) (a : Addr) (st : Stmt) : Prop where
  fn : ∃ fd, FnB B a fd ∧ IsDef fd st
theorem DefAt.keep {X : Cx} {W : List Addr} {a : Addr} {st : Stmt} (d : DefAt X.B a st) : KeepOk X W (.ref a) := by
  obtain ⟨fd, fb, _⟩ := d.fn
  exact keepOk_fn fb
/- entries forgotten -/
inductive Fgt : List (Str × Ent) → List (Str × Ent) → Prop
  | nil : Fgt [] []
  | un {x : Str} {e : Ent} {ρ ρ' : List (Str × Ent)} : e.rw = true → Fgt ρ ρ' → Fgt ((x, e) :: ρ) ((x, .un) :: ρ')
  | eq {x : Str} {e e' : Ent} {ρ ρ' : List (Str × Ent)} : e = e' → Fgt ρ ρ' → Fgt ((x, e) :: ρ) ((x, e') :: ρ')
theorem Fgt.keys {ρ ρ' : List (Str × Ent)} (h : Fgt ρ ρ') : ρ'.map (·.1) = ρ.map (·.1) := by
  induction h with
  | nil => rfl
  | un _ _ ih => rw [List.map_cons, List.map_cons, ih]
  | eq _ _ ih => rw [List.map_cons, List.map_cons, ih]
theorem Fgt.back {ρ ρ' : List (Str × Ent)} (h : Fgt ρ ρ') : ∀ p ∈ ρ', p ∈ ρ ∨ (p.2 = .un ∧ ∃ e, (p.1, e) ∈ ρ ∧ e.rw = true) := by
  induction h with
  | nil => intro p hp; cases hp
  | un hr _ ih =>
    intro p hp
    rcases List.mem_cons.mp hp with rfl | hp
    · exact .inr ⟨rfl, _, .head _, hr⟩
    · rcases ih p hp with h | ⟨h1, e, h2, h3⟩
      · exact .inl (.tail _ h)
      · exact .inr ⟨h1, e, .tail _ h2, h3⟩
  | eq he _ ih =>
    intro p hp
    rcases List.mem_cons.mp hp with rfl | hp
    · exact .inl (he ▸ .head _)
    · rcases ih p hp with h | ⟨h1, e, h2, h3⟩
      · exact .inl (.tail _ h)
      · exact .inr ⟨h1, e, .tail _ h2, h3⟩
theorem Ok.fgt {X : Cx} {W : List Addr} {ρ ρ' : List (Str × Ent)} {s : Shared} (x : Ok X W ρ s) (h : Fgt ρ ρ') : Ok X W ρ' s := x.forget h.back (by rw [h.keys]; exact x.nd)
theorem OkP.fgt {X : Cx} {W : List Addr} {P : List Pr} {ρ ρ' : List (Str × Ent)} {s : Shared} (x : OkP X W P ρ s) (h : Fgt ρ ρ') : OkP X W P ρ' s := ⟨x.ok.fgt h, x.prot⟩
theorem blk_then {X : Cx} {W : List Addr} {ρ ρ' : List (Str × Ent)} {rest : List Stmt} {N : Nrm} {R : Rtn} (h : Fgt ρ ρ') (n : Blk X W ρ' rest N R) : Blk X W ρ [] (Then X rest N R) R := blk_nil fun P s ok => n P s (ok.fgt h)

end Mine



namespace Mine
open PySem PyProof.Rows

section
variable {X : Cx} {W : List Addr} {ρ : List (Str × Ent)}
/- methods of lists -/
theorem getM_list {ds : List D} {name : Str} {id : String} (slot : Slot "list" name id) (hty : typeOf (.builtin id) = pure (.type "method_descriptor")) : GetM X W (.list ds) name (.builtin id) true := fun s ρ ov pl F ok r => by
  obtain ⟨a, vs, rfl, ⟨n, ho⟩, _⟩ := r
  exact getMethod_builtin (T := "list") ⟨_, ho, rfl⟩ PySem.F.plainAttrs_list slot hty (fun b e => by cases e; exact ⟨_, ho, rfl⟩) ⟨.refl .., rfl⟩
noncomputable abbrev natD (x : Nat) : D := .int (x : Int)
/- a loop over a list's items -/
theorem for_list {α : Type} {xs : List α} {φ : α → D} {N : Nrm} {R : Rtn} {t iter : Expr} {body rest : List Stmt} {pos : Pos} (F : Fine X) (σ : Nat → List (Str × Ent)) (h : Src X W ρ iter (xs.map φ)) (h0 : Fgt ρ (σ 0))
    (turn : ∀ (i : Nat) (hi : i < xs.length), ∃ ρ', Tgt X W (σ i) t (φ xs[i]) ρ' ∧ Blk X W ρ' body (fun P s => OkP X W P (σ (i + 1)) s) R) (nx : Blk X W (σ xs.length) rest N R)
    (hf : ∀ env x, foldedSetIterable iter env x = pure x := by intro _ _; rfl) (hg : ∀ it v M A E Q (s : Shared), (∃ o vs, s.heap.get? it = some o ∧ o.data = .fields vs ∧ (o.cls = .type "list_iterator" ∨ o.cls = .type "range_iterator")) → Q () s → wpAny M A (letOwnedTupleGo t (.ref it) v) Q E s := by intro _ _ _ _ _ _ _ _ q; exact wpAny_pure q) :
    Blk X W ρ (.For t iter body [] pos :: rest) N R := by
  refine blk_for F σ h (fun s ok => ok.fgt h0) (fun i d hd => ?_) ?_ hf hg
  · have hi : i < xs.length := by
      have := (List.getElem?_eq_some_iff.mp hd).1
      simpa using this
    have e : d = φ xs[i] := by
      rw [List.getElem?_map, List.getElem?_eq_getElem hi] at hd
      cases hd; rfl
    rw [e]; exact turn i hi
  · have e : (xs.map φ).length = xs.length := by simp
    rw [e]; exact nx
/- [v for x in xs], [v for x in xs if c] as lists -/
theorem flatMap_one {α β : Type} (f : α → β) (xs : List α) : xs.flatMap (fun x => [f x]) = xs.map f := by
  induction xs with
  | nil => rfl
  | cons x xs ih => rw [List.flatMap_cons, ih]; rfl
theorem flatMap_if {α β : Type} (c : α → Bool) (f : α → β) (xs : List α) : xs.flatMap (fun x => if c x then [f x] else []) = (xs.filter c).map f := by
  induction xs with
  | nil => rfl
  | cons x xs ih =>
    rw [List.flatMap_cons, ih, List.filter_cons]
    cases c x <;> simp
theorem Tst.cast {e : Expr} {c c' : Bool} (h : Tst X W ρ e c) (z : c = c') : Tst X W ρ e c' := z ▸ h
end
end Mine



namespace Mine
open PySem PyProof.Rows
section
variable {X : Cx} {W : List Addr} {ρ : List (Str × Ent)}
theorem cmp_notIn {ns : List Int} {k : Int} : CmpV X W .NotIn (.int k) (.list (ns.map .int)) (!ns.any (· == k)) := by
  intro s va vb ρ F hs ra rb
  obtain ⟨t, rfl⟩ := repT_int ra
  obtain ⟨l, vs, rfl, hl, r⟩ := rb
  have hI := reps_intsAre r
  have e1 : ∀ {vs : List Value} {ns : List Int}, IntsAre vs ns → vs.any (fun v => match v with | .int i _ => i == k | _ => false) = ns.any (· == k) := by
    intro vs ns h
    induction h with
    | nil => rfl
    | cons n t _ ih => rw [List.any_cons, List.any_cons, ih]
  have e2 : ∀ {vs : List Value} {ns : List Int}, IntsAre vs ns → ∀ y ∈ vs, ∃ i t, y = .int i t := by
    intro vs ns h
    induction h with
    | nil => intro y hy; cases hy
    | cons n t _ ih =>
      intro y hy
      rcases List.mem_cons.mp hy with rfl | hy
      · exact ⟨_, _, rfl⟩
      · exact ih y hy
  refine PySem.SeqAt.notIn_listAt (fun v => match v with | .int i _ => i == k | _ => false) hl.isList (fun y hy => ?_) ?_
  · obtain ⟨i, u, rfl⟩ := e2 hI y (by simpa using hy)
    exact PySem.SeqAt.EqAt.int_int i u k t
  · refine ⟨.refl .., ?_⟩
    rw [← e1 hI, List.any_toArray]
end
end Mine



namespace Mine
open PySem PyProof.Rows

section
variable {prog : Program} {w : World} {A : Around} {E : Value → Shared → Prop}
end

section
variable {X : Cx} {W : List Addr} {ρ : List (Str × Ent)} {N : Nrm} {R : Rtn}
/- several names are stored to, one after the other -/
inductive PutV : List (Str × Ent) → List Str → List D → List (Str × Ent) → Prop
  | nil {ρ : List (Str × Ent)} : PutV ρ [] [] ρ
  | cons {ρ ρ₁ ρ₂ : List (Str × Ent)} {x : Str} {d : D} {xs : List Str} {ds : List D} : Put ρ x (.val true d) ρ₁ → PutV ρ₁ xs ds ρ₂ → PutV ρ (x :: xs) (d :: ds) ρ₂
end
end Mine


set_option maxHeartbeats 1000000

namespace Mine
open PySem PyProof.Rows

/- ### the sort's plan, asked with a plain answer -/
noncomputable def kpost (lt : Nat → Nat → Bool) (N : Nat) {α : Type} : KasT α → (α → Prop) → Prop
  | .ret a, P => P a
  | .ask i j k, P => i < N ∧ j < N ∧ kpost lt N (k (lt i j)) P
theorem kpost_bind {lt : Nat → Nat → Bool} {N : Nat} {α β : Type} {f : α → KasT β} {P : β → Prop} : ∀ {t : KasT α}, kpost lt N t (fun a => kpost lt N (f a) P) → kpost lt N (t.bind f) P
  | .ret a, h => h
  | .ask i j k, h => ⟨h.1, h.2.1, kpost_bind h.2.2⟩
theorem kpost_mono {lt : Nat → Nat → Bool} {N : Nat} {α : Type} {P P' : α → Prop} (hp : ∀ a, P a → P' a) : ∀ {t : KasT α}, kpost lt N t P → kpost lt N t P'
  | .ret a, h => hp a h
  | .ask i j k, h => ⟨h.1, h.2.1, kpost_mono hp h.2.2⟩
/- answers that keep I -/
theorem kas_of_post {lt : Nat → Nat → Bool} {N : Nat} {I : Shared → Prop} {cmp : Nat → Nat → (Bool → Shared → Prop) → Shared → Prop} (hc : ∀ i j s C, i < N → j < N → I s → (∀ s', I s' → C (lt i j) s') → cmp i j C s) {α : Type} {P : α → Prop} {Q : α → Shared → Prop} :
    ∀ {t : KasT α} {s : Shared}, kpost lt N t P → I s → (∀ a s', P a → I s' → Q a s') → t.kasWp cmp Q s
  | .ret a, s, h, hi, hq => hq a s h hi
  | .ask i j k, s, h, hi, hq => hc i j s _ h.1 h.2.1 hi fun s' hi' => kas_of_post hc h.2.2 hi' hq

structure SOrd (lt : Nat → Nat → Bool) : Prop where
  irr : ∀ a, lt a a = false
  tr : ∀ a b c, lt a b = true → lt b c = true → lt a c = true
  neg : ∀ a b c, lt a c = true → lt a b = true ∨ lt b c = true
/- before: less, or alike and earlier -/
noncomputable def Bf (lt : Nat → Nat → Bool) (a b : Nat) : Prop := lt a b = true ∨ (lt b a = false ∧ a < b)
section
variable {lt : Nat → Nat → Bool} (O : SOrd lt)
include O
theorem SOrd.asym {a b : Nat} (h : lt a b = true) : lt b a = false := by
  cases e : lt b a with
  | false => rfl
  | true => have := O.tr _ _ _ h e; rw [O.irr] at this; cases this
theorem SOrd.ge_trans {a b c : Nat} (h1 : lt b a = false) (h2 : lt c b = false) : lt c a = false := by
  cases e : lt c a with
  | false => rfl
  | true => rcases O.neg _ b _ e with h | h
            · rw [h2] at h; cases h
            · rw [h1] at h; cases h
theorem SOrd.lt_ge {a b c : Nat} (h1 : lt a b = true) (h2 : lt c b = false) : lt a c = true := by
  rcases O.neg _ c _ h1 with h | h
  · exact h
  · rw [h2] at h; cases h
theorem SOrd.ge_lt {a b c : Nat} (h1 : lt b a = false) (h2 : lt b c = true) : lt a c = true := by
  rcases O.neg _ a _ h2 with h | h
  · rw [h1] at h; cases h
  · exact h
theorem Bf.ge {a b : Nat} (h : Bf lt a b) : lt b a = false := by
  rcases h with h | h
  · exact O.asym h
  · exact h.1
end

noncomputable abbrev gp (p : Array Nat) (i : Nat) : Nat := p.getD i 0
theorem gp_eq {p q : Array Nat} {i j : Nat} (h : p[i]? = q[j]?) : gp p i = gp q j := by
  unfold gp
  rw [Array.getD_eq_getD_getElem?, Array.getD_eq_getD_getElem?, h]
theorem gp_rev {p : Array Nat} {i j : Nat} (hj : j ≤ p.size) (k : Nat) : gp (kas_rev p i j) k = if i ≤ k ∧ k < j then gp p (i + j - 1 - k) else gp p k := by
  have e := getElem?_mirror_all (i := i) hj k
  by_cases h : i ≤ k ∧ k < j
  · rw [if_pos h] at e ⊢; exact gp_eq e
  · rw [if_neg h] at e ⊢; exact gp_eq e
theorem gp_bub {p : Array Nat} {src d : Nat} (hs : src < p.size) (hd : d ≤ src) (k : Nat) : gp (bubble p src d) k = if k = src - d then gp p src else if src - d < k ∧ k ≤ src then gp p (k - 1) else gp p k := by
  have e := getElem?_bubble hs d hd k
  by_cases h1 : k = src - d
  · rw [if_pos h1] at e ⊢; exact gp_eq e
  · rw [if_neg h1] at e ⊢
    by_cases h2 : src - d < k ∧ k ≤ src
    · rw [if_pos h2] at e ⊢; exact gp_eq e
    · rw [if_neg h2] at e ⊢; exact gp_eq e

/- the first m places are in play, the others as they were -/
structure Iv (N m : Nat) (p : Array Nat) : Prop where
  size : p.size = N
  perm : p.Perm (List.toArray (List.range N))
  low : ∀ i, i < m → gp p i < m
  tail : ∀ i, m ≤ i → i < N → gp p i = i
theorem Iv.succ {N m : Nat} {p : Array Nat} (h : Iv N m p) (hm : m < N) : Iv N (m + 1) p := by
  refine ⟨h.size, h.perm, fun i hi => ?_, fun i h1 h2 => h.tail i (by lia) h2⟩
  by_cases e : i < m
  · have := h.low i e; lia
  · have e : i = m := by lia
    subst e; rw [h.tail i (Nat.le_refl _) hm]; lia
theorem Iv.le {N m n : Nat} {p : Array Nat} (h : Iv N m p) (hn : m ≤ n) (hN : n ≤ N) : Iv N n p := by
  induction n with
  | zero => have : m = 0 := by lia
            subst this; exact h
  | succ n ih =>
    by_cases e : m = n + 1
    · subst e; exact h
    · exact (ih (by lia) (by lia)).succ (by lia)
theorem Iv.lt {N m : Nat} {p : Array Nat} (h : Iv N m p) (hm : m ≤ N) {i : Nat} (hi : i < N) : gp p i < N := by
  by_cases e : i < m
  · have := h.low i e; lia
  · rw [h.tail i (by lia) hi]; exact hi
theorem mir_lt {i j k : Nat} (h1 : i ≤ k) (h2 : k < j) : i + j - 1 - k < j := by lia
theorem mir_ge {i j k : Nat} (h : k < j) : i ≤ i + j - 1 - k := by lia
theorem mir_mono {a i j n : Nat} (h : i < j) (hj : j < n) : a + n - 1 - j < a + n - 1 - i := by lia
theorem Iv.rev {N m : Nat} {p : Array Nat} (h : Iv N m p) (hm : m ≤ N) {i j : Nat} (hj : j ≤ m) : Iv N m (kas_rev p i j) := by
  have hs : j ≤ p.size := by rw [h.size]; exact Nat.le_trans hj hm
  refine ⟨(kas_rev_size _ _).trans h.size, (mirror_perm _ _ _ _).trans h.perm, fun k hk => ?_, fun k h1 h2 => ?_⟩
  · rw [gp_rev hs]
    by_cases z : i ≤ k ∧ k < j
    · rw [if_pos z]; exact h.low _ (Nat.lt_of_lt_of_le (mir_lt z.1 z.2) hj)
    · rw [if_neg z]; exact h.low _ hk
  · rw [gp_rev hs, if_neg fun z => absurd (Nat.lt_of_lt_of_le z.2 hj) (Nat.not_lt_of_le h1)]; exact h.tail k h1 h2
theorem Iv.start (N : Nat) : Iv N 1 (List.toArray (List.range N)) ∨ N = 0 := by
  cases N with
  | zero => exact .inr rfl
  | succ N =>
    refine .inl ⟨by simp, .refl _, fun i hi => ?_, fun i h1 h2 => ?_⟩
    · have : i = 0 := by lia
      subst this; simp [gp]
    · simp [gp, h2]

noncomputable def Sup (lt : Nat → Nat → Bool) (p : Array Nat) (k : Nat) : Prop := ∀ i j, i < j → j < k → Bf lt (gp p i) (gp p j)
noncomputable def Sdn (lt : Nat → Nat → Bool) (p : Array Nat) (k : Nat) : Prop := ∀ i j, i < j → j < k → Bf lt (gp p j) (gp p i)
theorem Sup.ge {lt : Nat → Nat → Bool} (O : SOrd lt) {p : Array Nat} {k : Nat} (h : Sup lt p k) {i j : Nat} (hij : i ≤ j) (hj : j < k) : lt (gp p j) (gp p i) = false := by
  by_cases e : i = j
  · subst e; exact O.irr _
  · exact (h i j (by lia) hj).ge O

section
variable {lt : Nat → Nat → Bool} (O : SOrd lt) {N : Nat}
include O
theorem asc_ok {p : Array Nat} {nrem : Nat} (hN : nrem ≤ N) : ∀ (f n : Nat) {P : Nat → Prop}, 1 ≤ n → n + f = nrem → Iv N n p → Sup lt p n →
    (∀ m, n ≤ m → m ≤ nrem → Iv N m p → Sup lt p m → (m = nrem ∨ lt (gp p m) (gp p (m - 1)) = true) → P m) → kpost lt N (kas_asc p f n) P
  | 0, n, P, h1, hf, iv, su, q => q n (Nat.le_refl _) (by lia) iv su (.inl (by lia))
  | f + 1, n, P, h1, hf, iv, su, q => by
    have b1 := iv.lt (m := n) (by lia) (i := n) (by lia)
    have b2 := iv.lt (m := n) (by lia) (i := n - 1) (by lia)
    refine ⟨b1, b2, ?_⟩
    cases c : lt (gp p n) (gp p (n - 1)) with
    | true =>
      show kpost lt N (if _ then _ else _) P
      rw [if_pos rfl]
      exact q n (Nat.le_refl _) (by lia) iv su (.inr c)
    | false =>
      show kpost lt N (if _ then _ else _) P
      rw [if_neg (by simp)]
      refine asc_ok hN f (n + 1) (by lia) (by lia) (iv.succ (by lia)) (fun i j hij hj => ?_) fun m h2 h3 h4 h5 h6 => q m (by lia) h3 h4 h5 h6
      by_cases e : j < n
      · exact su i j hij e
      · have e : j = n := by lia
        subst e
        have g := O.ge_trans (su.ge O (i := i) (j := j - 1) (by lia) (by lia)) c
        refine .inr ⟨g, ?_⟩
        rw [iv.tail j (Nat.le_refl _) (by lia)]
        exact iv.low i hij

/- a falling run: the last q + 1 are alike, in their old order -/
structure Fal (lt : Nat → Nat → Bool) (N : Nat) (p : Array Nat) (n q : Nat) : Prop where
  iv : Iv N n p
  hq : q + 1 ≤ n
  dn : Sdn lt p (n - (q + 1))
  alike : ∀ i j, n - (q + 1) ≤ i → i < j → j < n → lt (gp p i) (gp p j) = false ∧ lt (gp p j) (gp p i) = false ∧ gp p i < gp p j
  ac : ∀ i j, i < n - (q + 1) → n - (q + 1) ≤ j → j < n → lt (gp p j) (gp p i) = true
omit O in
theorem Fal.one {p : Array Nat} {n : Nat} (h : Iv N n p) (h1 : 1 ≤ n) (dn : Sdn lt p (n - 1)) (ac : ∀ i, i < n - 1 → lt (gp p (n - 1)) (gp p i) = true) : Fal lt N p n 0 :=
  ⟨h, h1, dn, fun i j h1 h2 h3 => absurd (Nat.lt_of_le_of_lt h1 h2) (Nat.not_lt_of_le (Nat.le_sub_one_of_lt h3)), fun i j h1 h2 h3 => by
    have : j = n - 1 := Nat.le_antisymm (Nat.le_sub_one_of_lt h3) h2
    subst this; exact ac i h1⟩
/- the alike ones turned round -/
theorem Fal.rev {p : Array Nat} {n q : Nat} (h : Fal lt N p n q) (hn : n ≤ N) : Iv N n (kas_rev p (n - (q + 1)) n) ∧ Sdn lt (kas_rev p (n - (q + 1)) n) n := by
  have hs : n ≤ p.size := by rw [h.iv.size]; exact hn
  refine ⟨h.iv.rev hn (Nat.le_refl _), fun i j hij hj => ?_⟩
  rw [gp_rev hs, gp_rev hs]
  have hq := h.hq
  by_cases h1 : n - (q + 1) ≤ i
  · rw [if_pos ⟨Nat.le_trans h1 (Nat.le_of_lt hij), hj⟩, if_pos ⟨h1, Nat.lt_trans hij hj⟩]
    exact .inr (h.alike (n - (q + 1) + n - 1 - j) (n - (q + 1) + n - 1 - i) (mir_ge hj) (mir_mono hij hj) (mir_lt h1 (Nat.lt_trans hij hj))).2
  · by_cases h2 : n - (q + 1) ≤ j
    · rw [if_pos ⟨h2, hj⟩, if_neg fun z => h1 z.1]
      exact .inl (h.ac i _ (Nat.lt_of_not_le h1) (mir_ge hj) (mir_lt h2 hj))
    · rw [if_neg fun z => h2 z.1, if_neg fun z => h1 z.1]
      exact h.dn i j hij (Nat.lt_of_not_le h2)
omit O in
theorem Fal.dn0 {p : Array Nat} {n : Nat} (h : Fal lt N p n 0) : Sdn lt p n := fun i j hij hj => by
  by_cases e : j < n - 1
  · exact h.dn i j hij (by lia)
  · exact .inl (h.ac i j (by lia) (by lia) hj)
theorem desc_ok {nrem : Nat} (hN : nrem ≤ N) : ∀ (f : Nat) (p : Array Nat) (n q : Nat) {P : Array Nat × Nat × Nat → Prop}, n + f = nrem → Fal lt N p n q →
    (∀ p' m q', n ≤ m → m ≤ nrem → Fal lt N p' m q' → P (p', m, q')) → kpost lt N (kas_desc f p n q) P
  | 0, p, n, q, P, hf, fa, h => h p n q (Nat.le_refl _) (Nat.le_of_eq hf) fa
  | f + 1, p, n, q, P, hf, fa, h => by
    have iv := fa.iv
    have hq := fa.hq
    have hnN : n < N := by lia
    have hlt : n - 1 < n := Nat.sub_lt (Nat.lt_of_lt_of_le (Nat.succ_pos q) hq) Nat.one_pos
    have hf' : n + 1 + f = nrem := by rw [Nat.add_assoc, Nat.add_comm 1 f]; exact hf
    have b1 := iv.lt (Nat.le_of_lt hnN) hnN
    have b2 := iv.lt (Nat.le_of_lt hnN) (Nat.lt_trans hlt hnN)
    refine ⟨b1, b2, ?_⟩
    cases c : lt (gp p n) (gp p (n - 1)) with
    | true =>
      show kpost lt N (if _ then _ else _) P
      rw [if_pos rfl]
      have less : ∀ i, i < n → lt (gp p n) (gp p i) = true := fun i hi => by
        by_cases e : i < n - (q + 1)
        · exact O.tr _ _ _ c (fa.ac i (n - 1) e (Nat.sub_le_sub_left (Nat.le_add_left 1 q) n) hlt)
        · by_cases e2 : i = n - 1
          · rw [e2]; exact c
          · have := (fa.alike i (n - 1) (Nat.le_of_not_lt e) (Nat.lt_of_le_of_ne (Nat.le_sub_one_of_lt hi) e2) hlt).1
            exact O.lt_ge c this
      by_cases e : q > 0
      · rw [if_pos e]
        obtain ⟨iv', dn'⟩ := fa.rev O (Nat.le_of_lt hnN)
        have hs : n ≤ p.size := by rw [iv.size]; exact Nat.le_of_lt hnN
        refine desc_ok hN f _ (n + 1) 0 hf' (Fal.one (iv'.succ hnN) (Nat.succ_le_succ (Nat.zero_le n)) (by simpa using dn') fun i hi => ?_) fun p' m q' a b c => h p' m q' (Nat.le_of_succ_le a) b c
        simp only [Nat.add_sub_cancel] at hi ⊢
        rw [gp_rev hs, if_neg fun z => absurd z.2 (Nat.lt_irrefl n), gp_rev hs]
        by_cases z : n - (q + 1) ≤ i ∧ i < n
        · rw [if_pos z]; exact less _ (mir_lt z.1 z.2)
        · rw [if_neg z]; exact less _ hi
      · rw [if_neg e]
        have : q = 0 := Nat.eq_zero_of_not_pos e
        subst this
        exact desc_ok hN f _ (n + 1) 0 hf' (Fal.one (iv.succ hnN) (Nat.succ_le_succ (Nat.zero_le n)) (by simpa using fa.dn0) fun i hi => by simpa using less i (by simpa using hi)) fun p' m q' a b c => h p' m q' (Nat.le_of_succ_le a) b c
    | false =>
      show kpost lt N (if _ then _ else _) P
      rw [if_neg (by simp)]
      refine ⟨b2, b1, ?_⟩
      cases d : lt (gp p (n - 1)) (gp p n) with
      | true =>
        show kpost lt N (if _ then _ else _) P
        rw [if_pos rfl]
        exact h p n q (Nat.le_refl _) (hf ▸ Nat.le_add_right n (f + 1)) fa
      | false =>
        show kpost lt N (if _ then _ else _) P
        rw [if_neg (by simp)]
        refine desc_ok hN f p (n + 1) (q + 1) hf' ?_ fun p' m q' a b c => h p' m q' (Nat.le_of_succ_le a) b c
        have e0 : n + 1 - (q + 1 + 1) = n - (q + 1) := Nat.add_sub_add_right n 1 (q + 1)
        have tl := iv.tail n (Nat.le_refl _) hnN
        refine ⟨iv.succ hnN, Nat.succ_le_succ hq, by rw [e0]; exact fa.dn, fun i j h1 h2 h3 => ?_, fun i j h1 h2 h3 => ?_⟩
        · rw [e0] at h1
          by_cases e : j < n
          · exact fa.alike i j h1 h2 e
          · have e : j = n := Nat.le_antisymm (Nat.le_of_lt_succ h3) (Nat.le_of_not_lt e)
            subst e
            refine ⟨?_, ?_, by rw [tl]; exact iv.low i h2⟩
            · by_cases e2 : i = j - 1
              · rw [e2]; exact d
              · exact O.ge_trans d (fa.alike i (j - 1) h1 (Nat.lt_of_le_of_ne (Nat.le_sub_one_of_lt h2) e2) hlt).1
            · by_cases e2 : i = j - 1
              · rw [e2]; exact c
              · exact O.ge_trans (fa.alike i (j - 1) h1 (Nat.lt_of_le_of_ne (Nat.le_sub_one_of_lt h2) e2) hlt).2.1 c
        · rw [e0] at h1 h2
          by_cases e : j < n
          · exact fa.ac i j h1 h2 e
          · have e : j = n := Nat.le_antisymm (Nat.le_of_lt_succ h3) (Nat.le_of_not_lt e)
            subst e
            exact O.ge_lt d (fa.ac i (j - 1) h1 (Nat.sub_le_sub_left (Nat.le_add_left 1 q) j) hlt)
theorem tail3_ok {p : Array Nat} {n nrem : Nat} {P : Nat × Array Nat → Prop} (hN : nrem ≤ N) (h1 : 1 ≤ n) (hn : n ≤ nrem) (iv : Iv N n p) (dn : Sdn lt p n)
    (h : ∀ m p', 1 ≤ m → m ≤ nrem → Iv N m p' → Sup lt p' m → P (m, p')) : kpost lt N (kas_tail3 n nrem p) P := by
  unfold kas_tail3
  have hs : n ≤ p.size := by rw [iv.size]; lia
  refine kpost_bind (asc_ok O hN (nrem - n) n h1 (by lia) (iv.rev (by lia) (Nat.le_refl _)) (fun i j hij hj => ?_) fun m h2 h3 h4 h5 zz1 => h m _ (by lia) h3 h4 h5)
  rw [gp_rev hs, gp_rev hs, if_pos ⟨Nat.zero_le _, Nat.lt_trans hij hj⟩, if_pos ⟨Nat.zero_le _, hj⟩, Nat.zero_add]
  exact dn _ _ (Nat.sub_lt_sub_left (Nat.lt_of_lt_of_le hij (Nat.le_sub_one_of_lt hj)) hij) (Nat.lt_of_le_of_lt (Nat.sub_le _ _) (Nat.sub_lt h1 Nat.one_pos))
theorem descPart_ok {p : Array Nat} {n nrem : Nat} {P : Nat × Array Nat → Prop} (hN : nrem ≤ N) (hn : n + 1 ≤ nrem) (fa : Fal lt N p (n + 1) 0)
    (h : ∀ m p', 1 ≤ m → m ≤ nrem → Iv N m p' → Sup lt p' m → P (m, p')) : kpost lt N (kas_descPart n nrem p) P := by
  unfold kas_descPart
  refine kpost_bind (desc_ok O hN _ _ _ _ (by lia) fa fun p' m q h1 h2 fa' => ?_)
  dsimp only
  by_cases e : q > 0
  · rw [if_pos e]
    obtain ⟨iv', dn'⟩ := fa'.rev O (by lia)
    exact tail3_ok O hN (by lia) h2 iv' dn' h
  · rw [if_neg e]
    have : q = 0 := by lia
    subst this
    exact tail3_ok O hN (by lia) h2 fa'.iv fa'.dn0 h
theorem count_ok {p : Array Nat} {P : Nat × Array Nat → Prop} (h1 : 1 ≤ N) (iv : Iv N 1 p)
    (h : ∀ m p', 1 ≤ m → m ≤ N → Iv N m p' → Sup lt p' m → P (m, p')) : kpost lt N (kas_count N p) P := by
  unfold kas_count
  refine kpost_bind (asc_ok O (Nat.le_refl _) (N - 1) 1 (Nat.le_refl _) (by lia) iv (fun i j hij hj => by lia) fun n hn1 hn2 ivn sn hor => ?_)
  by_cases e1 : (n == N) = true
  · rw [if_pos e1]
    exact h n p hn1 hn2 ivn sn
  · rw [if_neg e1]
    have hlt : n < N := by
      have : n ≠ N := fun q => e1 (by rw [q]; exact beq_self_eq_true _)
      lia
    have hc := hor.resolve_left (by lia)
    by_cases e2 : n > 1
    · rw [if_pos e2]
      refine ⟨ivn.lt (m := n) (by lia) (by lia), ivn.lt (m := n) (by lia) (by lia), ?_⟩
      cases c : lt (gp p 0) (gp p (n - 1)) with
      | true => show kpost lt N (if _ then _ else _) P
                rw [if_pos rfl]; exact h n p hn1 hn2 ivn sn
      | false =>
        show kpost lt N (if _ then _ else _) P
        rw [if_neg (by simp)]
        have hs : n ≤ p.size := by rw [ivn.size]; lia
        have al : ∀ i, i < n → lt (gp p i) (gp p (n - 1)) = false := fun i hi => O.ge_trans c (sn.ge O (i := 0) (j := i) (by lia) hi) |> fun zz1 => by
          have a := sn.ge O (i := 0) (j := i) (by lia) hi
          cases e : lt (gp p i) (gp p (n - 1)) with
          | false => rfl
          | true => have := O.ge_lt a e; rw [c] at this; cases this
        refine descPart_ok O (Nat.le_refl _) hlt (Fal.one ((ivn.rev (by lia) (Nat.le_refl _)).succ hlt) (by lia) ?_ ?_) h
        · simp only [Nat.add_sub_cancel]
          intro i j hij hj
          rw [gp_rev hs, gp_rev hs, if_pos ⟨Nat.zero_le _, hj⟩, if_pos ⟨Nat.zero_le _, Nat.lt_trans hij hj⟩, Nat.zero_add]
          exact sn _ _ (Nat.sub_lt_sub_left (Nat.lt_of_lt_of_le hij (Nat.le_sub_one_of_lt hj)) hij) (Nat.lt_of_le_of_lt (Nat.sub_le _ _) (Nat.sub_lt hn1 Nat.one_pos))
        · intro i hi
          simp only [Nat.add_sub_cancel] at hi ⊢
          rw [gp_rev hs, if_neg (by lia), gp_rev hs, if_pos (by lia)]
          exact O.lt_ge hc (al _ (by lia))
    · rw [if_neg e2]
      have : n = 1 := by lia
      subst this
      refine descPart_ok O (Nat.le_refl _) hlt (Fal.one (ivn.succ hlt) (by lia) (fun i j hij hj => by lia) fun i hi => ?_) h
      have : i = 0 := by lia
      subst this
      exact hc
theorem place_ok {p : Array Nat} {k : Nat} (hk : k < N) (iv : Iv N k p) (su : Sup lt p k) : ∀ (f l r : Nat) {P : Nat → Prop}, r - l ≤ f → l ≤ r → r ≤ k → (∀ i, i < l → lt (gp p k) (gp p i) = false) → (∀ i, r ≤ i → i < k → lt (gp p k) (gp p i) = true) →
    (∀ m, m ≤ k → (∀ i, i < m → lt (gp p k) (gp p i) = false) → (∀ i, m ≤ i → i < k → lt (gp p k) (gp p i) = true) → P m) → kpost lt N (kas_place p k f l r) P
  | 0, l, r, P, hf, hl, hr, lo, hi, h => h l (Nat.le_trans hl hr) lo fun i h1 h2 => hi i (Nat.le_trans (Nat.le_of_sub_eq_zero (Nat.le_zero.mp hf)) h1) h2
  | f + 1, l, r, P, hf, hl, hr, lo, hi, h => by
    unfold kas_place
    by_cases e : l ≥ r
    · rw [if_pos e]
      exact h l (Nat.le_trans hl hr) lo fun i h1 h2 => hi i (Nat.le_trans e h1) h2
    · rw [if_neg e]
      have m1 : l ≤ (l + r) / 2 := by lia
      have m2 : (l + r) / 2 < r := by lia
      generalize (l + r) / 2 = m at m1 m2 ⊢
      have m3 := Nat.lt_of_lt_of_le m2 hr
      refine ⟨iv.lt (Nat.le_of_lt hk) hk, iv.lt (Nat.le_of_lt hk) (Nat.lt_trans m3 hk), ?_⟩
      cases c : lt (gp p k) (gp p m) with
      | true =>
        show kpost lt N (kas_place p k f l m) P
        exact place_ok hk iv su f l _ (by lia) m1 (Nat.le_of_lt m3) lo (fun i h1 h2 => O.lt_ge c (su.ge O h1 h2)) h
      | false =>
        show kpost lt N (kas_place p k f (m + 1) r) P
        exact place_ok hk iv su f _ r (by lia) m2 hr (fun i h1 => O.ge_trans (su.ge O (i := i) (j := m) (Nat.le_of_lt_succ h1) m3) c) hi h
omit O in
/- one more item put in its place -/
theorem bin_step {k l : Nat} {p : Array Nat} (hkN : k < N) (iv : Iv N k p) (su : Sup lt p k) (hl : l ≤ k) (lo : ∀ i, i < l → lt (gp p k) (gp p i) = false) (hi : ∀ i, l ≤ i → i < k → lt (gp p k) (gp p i) = true) :
    Iv N (k + 1) (bubble p k (k - l)) ∧ Sup lt (bubble p k (k - l)) (k + 1) := by
  have hs : k < p.size := by rw [iv.size]; exact hkN
  have tl := iv.tail k (Nat.le_refl _) hkN
  have ek : k - (k - l) = l := Nat.sub_sub_self hl
  have hd : k - l ≤ k := Nat.sub_le k l
  have pl : ∀ i, l < i → i - 1 < i := fun i h => Nat.sub_lt (Nat.lt_of_le_of_lt (Nat.zero_le l) h) Nat.one_pos
  refine ⟨⟨(bubble_size _ _ _).trans iv.size, (bubble_perm _ _ _).trans iv.perm, fun i hi' => ?_, fun i h1 h2 => ?_⟩, fun i j hij hj => ?_⟩
  · rw [gp_bub hs hd, ek]
    by_cases e1 : i = l
    · rw [if_pos e1, tl]; exact Nat.lt_succ_self k
    · rw [if_neg e1]
      by_cases e2 : l < i ∧ i ≤ k
      · rw [if_pos e2]
        exact Nat.lt_succ_of_lt (iv.low (i - 1) (Nat.lt_of_lt_of_le (pl i e2.1) e2.2))
      · rw [if_neg e2]
        by_cases e : i < k
        · exact Nat.lt_succ_of_lt (iv.low i e)
        · have e : i = k := Nat.le_antisymm (Nat.le_of_lt_succ hi') (Nat.le_of_not_lt e)
          subst e; rw [tl]; exact Nat.lt_succ_self i
  · have h1' : k < i := h1
    rw [gp_bub hs hd, ek, if_neg (Nat.ne_of_gt (Nat.lt_of_le_of_lt hl h1')), if_neg fun z => absurd z.2 (Nat.not_le_of_lt h1')]
    exact iv.tail i (Nat.le_of_lt h1') h2
  · have hjk : j ≤ k := Nat.le_of_lt_succ hj
    rw [gp_bub hs hd, gp_bub hs hd, ek]
    by_cases a1 : j = l
    · have il : i < l := a1 ▸ hij
      rw [if_neg (Nat.ne_of_lt il), if_neg fun z => absurd z.1 (Nat.not_lt_of_lt il), if_pos a1]
      exact .inr ⟨lo i il, by rw [tl]; exact iv.low i (Nat.lt_of_lt_of_le il hl)⟩
    · rw [if_neg a1]
      by_cases a2 : l < j
      · rw [if_pos (show l < j ∧ j ≤ k from ⟨a2, hjk⟩)]
        have hj1 := Nat.lt_of_lt_of_le (pl j a2) hjk
        by_cases b1 : i = l
        · rw [if_pos b1]
          exact .inl (hi (j - 1) (Nat.le_sub_one_of_lt a2) hj1)
        · rw [if_neg b1]
          by_cases b2 : l < i
          · rw [if_pos (show l < i ∧ i ≤ k from ⟨b2, Nat.le_trans (Nat.le_of_lt hij) hjk⟩)]
            exact su _ _ (Nat.lt_of_lt_of_le (pl i b2) (Nat.le_sub_one_of_lt hij)) hj1
          · rw [if_neg fun z => b2 z.1]
            exact su _ _ (Nat.lt_of_lt_of_le (Nat.lt_of_le_of_ne (Nat.le_of_not_lt b2) b1) (Nat.le_sub_one_of_lt a2)) hj1
      · have jl : j < l := Nat.lt_of_le_of_ne (Nat.le_of_not_lt a2) a1
        have il := Nat.lt_trans hij jl
        rw [if_neg (Nat.ne_of_lt il), if_neg fun z => absurd z.1 (Nat.not_lt_of_lt il), if_neg fun z => a2 z.1]
        exact su _ _ hij (Nat.lt_of_lt_of_le jl hl)
/- binary insertion of the first n -/
theorem bin_to {n : Nat} (hn : n ≤ N) : ∀ (f : Nat) (p : Array Nat) (k : Nat) {P : Array Nat → Prop}, k + f = n → Iv N k p → Sup lt p k → (∀ p', Iv N n p' → Sup lt p' n → P p') → kpost lt N (kas_bin f p k) P
  | 0, p, k, P, hf, iv, su, h => by
    have : k = n := by lia
    subst this; exact h p iv su
  | f + 1, p, k, P, hf, iv, su, h => by
    refine kpost_bind (place_ok O (by lia) iv su k 0 k (by lia) (by lia) (Nat.le_refl _) (fun i hi => by lia) (fun i h1 h2 => by lia) fun l hl lo hi => ?_)
    obtain ⟨a, b⟩ := bin_step (by lia) iv su hl lo hi
    exact bin_to hn f _ (k + 1) (by lia) a b h
/- the sort is a stable one -/
theorem sort_ok (h1 : 1 ≤ N) {P : Array Nat → Prop} (h : ∀ p, p.toList.Perm (List.range N) → p.toList.Pairwise (Bf lt) → P p) : kpost lt N (kas_sort N) P := by
  unfold kas_sort
  have iv0 := (Iv.start N).resolve_right (by lia)
  have fin : ∀ p, Iv N N p → Sup lt p N → P p := fun p iv su => by
    refine h p (by simpa using Array.perm_iff_toList_perm.mp iv.perm) (List.pairwise_iff_getElem.mpr fun i j hi hj hij => ?_)
    have hs := iv.size
    rw [Array.length_toList] at hi hj
    have := su i j hij (by lia)
    have ei : gp p i = p.toList[i] := by simp [gp, hi]
    have ej : gp p j = p.toList[j] := by simp [gp, hj]
    rw [ei, ej] at this
    exact this
  refine kpost_bind (count_ok O h1 iv0 fun m p hm1 hm2 iv su => ?_)
  dsimp only
  by_cases e : m < N
  · rw [if_pos e]
    have em : max m 1 = m := by lia
    rw [em]
    exact bin_to O (Nat.le_refl _) (N - m) p m (by lia) iv su fin
  · rw [if_neg e]
    have : m = N := by lia
    subst this
    exact fin p iv su
end
end Mine



namespace Mine
open PySem PyProof.Rows

/- ### data as the library's plain data -/
section
variable {X : Cx} {W : List Addr} {ρ : List (Str × Ent)} {N : Nrm} {R : Rtn}
/- list.index -/
theorem callV_index {ns : List Int} {k : Int} (hk : k ∈ ns) (hz : ns.length ≤ 1000000) : CallV X W (.builtin "list.index") [.list (ns.map .int), .int k] .f (.int (ns.idxOf k : Nat)) := fun s ρ vs F hs hr => by
  obtain ⟨v, v', rfl, ⟨a, us, rfl, hl, r⟩, r'⟩ := repTs_two hr
  obtain ⟨t, rfl⟩ := repT_int r'
  have hi := reps_intsAre r
  obtain ⟨⟨cls, dd, data, sl⟩, ho, hc, n, hd⟩ := hl.isList
  simp only at hc hd
  subst hc hd
  have hlen := hi.length
  have hj : ns.idxOf k < ns.length := List.idxOf_lt_length_iff.mpr hk
  refine call_meets PySem.F.slot_list_index ⟨_, ho, rfl⟩ PySem.F.entry_list_index (PySem.F.args_list_index_2 _ _)
    (PySem.SeqAt.list_indexAt a us.toArray n dd sl (.int k t) (isInt k) (ns.idxOf k) (by simpa [hlen] using hj) (by (first | lia | omega)) ?_ ?_) ⟨ho, fun y hy => (eq_isInt k t hi y (by simpa using hy)).at _ _, ⟨sext_toks _ _, .int _ _, fun zz1 e => by cases e⟩⟩
  · show isInt k us[ns.idxOf k] = true
    rw [isInt_at k hi _ (by (first | lia | omega)) hj]
    simpa using List.getElem_idxOf hj
  · intro j hjs hlt
    show isInt k us[j] = false
    rw [isInt_at k hi j (by simpa using hjs) (by (first | lia | omega))]
    exact ne_of_lt_idxOf hlt _
end
end Mine



namespace Mine
open PySem PyProof.Rows
/- values that stand for d read as plain data, at most n deep -/
noncomputable def Pl (n : Nat) (d : D) (p : PyData) : Prop := (∀ W h v, RepT W h v d → ∃ as, Reads h v p as) ∧ p.canLay0 = true ∧ p.depth ≤ n
theorem Pl.int {n : Nat} (i : Int) : Pl n (.int i) (.int i) := ⟨fun zz1 zz2 zz3 r => by obtain ⟨t, rfl⟩ := repT_int r; exact ⟨_, .int _ _⟩, rfl, Nat.zero_le _⟩
theorem pls {n : Nat} {l : List (D × PyData)} : (∀ x ∈ l, Pl n x.1 x.2) → (∀ W h vs, Reps W h vs (l.map (·.1)) → ∃ as, ReadsAll h vs (l.map (·.2)) as) ∧ PyData.canLayAll0 (l.map (·.2)) = true ∧ PyData.depthAll (l.map (·.2)) ≤ n := by
  induction l with
  | nil => exact fun zz1 => ⟨fun W h vs r => by cases r; exact ⟨_, .nil⟩, rfl, Nat.zero_le _⟩
  | cons x l ih =>
    intro k
    have k1 := k x (.head _)
    have k2 := ih fun y hy => k y (.tail _ hy)
    refine ⟨fun W h vs r => ?_, ?_, Nat.max_le.mpr ⟨k1.2.2, k2.2.2⟩⟩
    · cases r with
      | cons a b =>
        obtain ⟨as, q⟩ := k1.1 W h _ a.toT
        obtain ⟨bs, z⟩ := k2.1 W h _ b
        exact ⟨_, .cons q z⟩
    · show (x.2.canLay0 && _) = true
      rw [k1.2.1]; exact k2.2.1
theorem Pl.list {n : Nat} {l : List (D × PyData)} (k : ∀ x ∈ l, Pl n x.1 x.2) : Pl (n + 1) (.list (l.map (·.1))) (.list (l.map (·.2))) := by
  have h := pls k
  refine ⟨fun W h' v r => ?_, h.2.1, ?_⟩
  · obtain ⟨a, vs, rfl, hl, hr⟩ := r
    obtain ⟨as, q⟩ := h.1 W h' vs hr
    obtain ⟨o, ho, hc, c, hd⟩ := hl.isList
    exact ⟨_, .list ho hc hd (by rw [List.toList_toArray]; exact q)⟩
  · rw [PyData.depth]; exact Nat.succ_le_succ h.2.2
theorem Pl.tuple {n : Nat} {l : List (D × PyData)} (k : ∀ x ∈ l, Pl n x.1 x.2) : Pl (n + 1) (.tuple (l.map (·.1))) (.tuple (l.map (·.2))) := by
  have h := pls k
  refine ⟨fun W h' v r => ?_, h.2.1, ?_⟩
  · have r' : Rep W h' v (.tuple (l.map (·.1))) := r
    generalize hz : l.map (·.1) = z at r'
    cases r' with
    | tuple hl hw hr =>
      obtain ⟨as, q⟩ := h.1 W h' _ (hz ▸ hr)
      obtain ⟨o, ho, hc, c, hd⟩ := hl
      exact ⟨_, .tuple ho hc hd (by rw [List.toList_toArray]; exact q)⟩
  · rw [PyData.depth]; exact Nat.succ_le_succ h.2.2
theorem Pl.shaped {n : Nat} {d : D} {p : PyData} (x : Pl n d p) (hn : n ≤ 64) : SeqAt.shaped p = true := by
  unfold SeqAt.shaped
  rw [x.2.1, Bool.true_and]
  exact decide_eq_true (Nat.le_trans x.2.2 hn)
section
variable {X : Cx} {W : List Addr} {n : Nat} {d : D} {p : PyData}
theorem Pl.eq (x : Pl n d p) (hn : n ≤ 64) : CmpV X W .Eq d d true := by
  intro s va vb ρ F hs ra rb
  obtain ⟨as, r1⟩ := x.1 _ _ _ ra
  obtain ⟨bs, r2⟩ := x.1 _ _ _ rb
  exact eq_dataH r1 r2 (x.shaped hn) (x.shaped hn) (by have := F.uni; (first | lia | omega)) ⟨.refl .., congrArg _ (SeqAt.eqv_refl _ x.2.1)⟩
theorem Pl.ne (x : Pl n d p) (hn : n ≤ 64) : CmpV X W .NotEq d d false := by
  intro s va vb ρ F hs ra rb
  obtain ⟨as, r1⟩ := x.1 _ _ _ ra
  obtain ⟨bs, r2⟩ := x.1 _ _ _ rb
  exact ne_dataH r1 r2 (x.shaped hn) (x.shaped hn) (by have := F.uni; (first | lia | omega)) ⟨.refl .., congrArg (fun b => Value.bool (!b)) (SeqAt.eqv_refl _ x.2.1)⟩
end
end Mine


set_option maxHeartbeats 4000000

namespace Mine
open PySem PyProof.Rows

/- all kept but a -/
structure KB (a : Addr) (s s' : Shared) : Prop where
  keep : ∀ b o, b ≠ a → s.heap.get? b = some o → s'.heap.get? b = some o
  gens : s'.gens = s.gens
  os : s'.os = s.os
theorem KB.ext {a : Addr} {s s' s'' : Shared} (x : KB a s s') (y : SExt [] s' s'') : KB a s s'' := ⟨fun b o n e => y.ext.strict _ _ (x.keep b o n e), y.gens.trans x.gens, y.os.trans x.os⟩
/- an old state, the list was not there -/
theorem KB.from {a : Addr} {s₀ s s' : Shared} (x : KB a s s') (y : SExt [] s₀ s) (ha : s₀.heap.get? a = Option.none) : SExt [] s₀ s' :=
  ⟨.of_keep fun b o e => x.keep b o (fun z => by subst z; rw [ha] at e; cases e) (y.ext.strict _ _ e), x.gens.trans y.gens, x.os.trans y.os⟩

section
variable {prog : Program} {w : World} {A : Around} {E : Value → Shared → Prop} {s : Shared}
theorem bf_small {lt : Nat → Nat → Bool} {n : Nat} (h : n < 2) : (List.range n).Pairwise (Bf lt) := by
  have : n = 0 ∨ n = 1 := by lia
  rcases this with rfl | rfl
  · exact .nil
  · exact List.pairwise_singleton _ _
end
end Mine


set_option maxHeartbeats 4000000

namespace Mine
open PySem PyProof.Rows

/- ### tuples as targets -/
inductive PutVU : List (Str × Ent) → List Str → List D → List (Str × Ent) → Prop
  | nil {ρ : List (Str × Ent)} : PutVU ρ [] [] ρ
  | cons {ρ ρ₁ ρ₂ : List (Str × Ent)} {x : Str} {d : D} {xs : List Str} {ds : List D} : PutU ρ x (.val true d) ρ₁ → PutVU ρ₁ xs ds ρ₂ → PutVU ρ (x :: xs) (d :: ds) ρ₂
theorem PutVU.put {ρ ρ' : List (Str × Ent)} {xs : List Str} {ds : List D} (h : PutVU ρ xs ds ρ') : PutV ρ xs ds ρ' := by
  induction h with
  | nil => exact .nil
  | cons p _ ih => exact .cons p.put ih
theorem PutVU.back {ρ ρ' : List (Str × Ent)} {xs : List Str} {ds : List D} (h : PutVU ρ xs ds ρ') : Back ρ' ρ := by
  induction h with
  | nil => exact fun s X W ok => ok
  | cons p _ ih => exact fun s X W ok => p.back rfl s X W (ih s X W ok)
theorem PutVU.noOwn {ρ ρ' : List (Str × Ent)} {xs : List Str} {ds : List D} (h : PutVU ρ xs ds ρ') (n : NoOwn ρ) : NoOwn ρ' := by
  induction h with
  | nil => exact n
  | cons p _ ih => exact ih (p.noOwn (fun zz1 zz2 e => by cases e) n)
section
variable {X : Cx} {W : List Addr} {ρ : List (Str × Ent)} {N : Nrm} {R : Rtn}
/- ### sorted pairs -/
end
end Mine


set_option maxHeartbeats 1000000

namespace Mine
open PySem PyProof.Rows

/- ### the sort's own state, asked with a plain answer -/
section
variable {M : Model} {A : Around} {E : Value → Shared → Prop} {I : Shared → Prop}
/- m ends in P, from any heap that keeps I -/
noncomputable def KP (M : Model) (A : Around) (E : Value → Shared → Prop) (I : Shared → Prop) {σ α : Type} (m : StateT σ Sem α) (P : α → σ → Prop) (st : σ) : Prop :=
  ∀ s, I s → kasC M A E m (fun a st' s' => P a st' ∧ I s') st s
variable {σ α β : Type} {P : α → σ → Prop} {st : σ}
theorem KP.pure {a : α} (h : P a st) : KP M A E I (pure a : StateT σ Sem α) P st := fun s hs => kasC_pure ⟨h, hs⟩
theorem KP.bind {m : StateT σ Sem β} {f : β → StateT σ Sem α} (h : KP M A E I m (fun b st' => KP M A E I (f b) P st') st) : KP M A E I (m >>= f) P st := fun s hs =>
  kasC_bind (wpAny_mono (h s hs) (fun r s' q => q.1 s' q.2) fun zz1 zz2 e => e)
theorem KP.mono {m : StateT σ Sem α} {P' : α → σ → Prop} (h : KP M A E I m P' st) (k : ∀ a st', P' a st' → P a st') : KP M A E I m P st := fun s hs =>
  wpAny_mono (h s hs) (fun r s' q => ⟨k _ _ q.1, q.2⟩) fun zz1 zz2 e => e
theorem KP.get {P : σ → σ → Prop} (h : P st st) : KP M A E I (get : StateT σ Sem σ) P st := fun s hs => kasC_get ⟨h, hs⟩
theorem KP.modify {f : σ → σ} {P : PUnit → σ → Prop} (h : P ⟨⟩ (f st)) : KP M A E I (modify f : StateT σ Sem PUnit) P st := fun s hs => kasC_modify ⟨h, hs⟩
theorem KP.rule {r : String} {P : Unit → σ → Prop} (h : P () st) : KP M A E I (liftM (rule r) : StateT σ Sem Unit) P st := fun s hs => kasC_lift (wpAny_rule ⟨h, hs⟩)
/- a bounded loop -/
theorem KP.list {f : Nat → β → StateT σ Sem (ForInStep β)} {P : β → σ → Prop} (J : Nat → β → σ → Prop) : ∀ (l : List Nat) (n : Nat) (b : β) (st : σ), J n b st →
    (∀ x i b st, i < n + l.length → J i b st → KP M A E I (f x b) (fun r st' => match r with | .done b' => P b' st' | .yield b' => J (i + 1) b' st') st) →
    (∀ b st, J (n + l.length) b st → P b st) → KP M A E I (forIn l b f) P st
  | [], n, b, st, hJ, _, hP => by
    rw [List.forIn_nil]; exact .pure (hP b st hJ)
  | x :: l, n, b, st, hJ, step, hP => by
    rw [List.forIn_cons]
    refine .bind ((step x n b st (by simp) hJ).mono fun r st' q => ?_)
    cases r with
    | done b' => exact .pure q
    | yield b' =>
      refine KP.list J l (n + 1) b' st' q (fun y i c st2 hi => step y i c st2 (by rw [List.length_cons]; (first | lia | omega))) fun c st2 hJ2 => hP c st2 ?_
      have e : n + (x :: l).length = n + 1 + l.length := by rw [List.length_cons]; (first | lia | omega)
      rw [e]; exact hJ2
theorem KP.range {a b : Nat} {c : β} {f : Nat → β → StateT σ Sem (ForInStep β)} {P : β → σ → Prop} (J : Nat → β → σ → Prop) (h0 : J 0 c st)
    (step : ∀ x i c st, i < b - a → J i c st → KP M A E I (f x c) (fun r st' => match r with | .done c' => P c' st' | .yield c' => J (i + 1) c' st') st) (hP : ∀ c st, J (b - a) c st → P c st) : KP M A E I (forIn [a:b] c f) P st := fun s hs => by
  refine kasC_range (KP.list J (List.range' a (b - a)) 0 c st h0 (fun x i c st hi => step x i c st ?_) (fun c st q => hP c st ?_) s hs)
  · rw [List.length_range'] at hi; (first | lia | omega)
  · rw [List.length_range', Nat.zero_add] at q; exact q
end

section
variable {M : Model} {A : Around} {E : Value → Shared → Prop} {I : Shared → Prop} {σ α : Type} {st : σ} {P : α → σ → Prop}
theorem KP.ite {c : Prop} [Decidable c] {x y : StateT σ Sem α} (h1 : c → KP M A E I x P st) (h2 : ¬ c → KP M A E I y P st) : KP M A E I (if c then x else y) P st := by
  by_cases h : c
  · rw [if_pos h]; exact h1 h
  · rw [if_neg h]; exact h2 h
end

noncomputable abbrev gallopP : Bool → Keyed → Array Keyed → Nat → Nat → Nat → StateT SortSt Sem (Option Nat) := sortPriv% PySem.Builtin.gallop
section
variable {prog : Program} {w : World} {A : Around} {E : Value → Shared → Prop} {I : Shared → Prop} {κ : SortKind} {it : Array Keyed} {lt : Nat → Nat → Bool} {N : Nat}
/- the answers -/
noncomputable def Asks (prog : Program) (w : World) (A : Around) (I : Shared → Prop) (κ : SortKind) (it : Array Keyed) (lt : Nat → Nat → Bool) (N : Nat) : Prop :=
  ∀ i j s C, i < N → j < N → I s → (∀ s', I s' → C (lt i j) s') → kas_cmp prog w A κ it i j C s
theorem KP.ask {i j : Nat} {st : SortSt} {P : Option Bool → SortSt → Prop} (H : Asks prog w A I κ it lt N) (hi : i < N) (hj : j < N) (hk : kindOf st = κ) (h : P (some (lt i j)) st) :
    KP (model prog w) A E I (lt' (kas_item it i) (kas_item it j)) P st := fun s hs => by
  rw [lt'_eq]
  refine kasC_bind (kasC_get ?_)
  rw [hk]
  refine kasC_bind (kasC_lift (wpAny_attempt (wpAny_mono (H i j s (fun c s' => c = lt i j ∧ I s') hi hj hs fun s' hs' => ⟨rfl, hs'⟩) (fun c s' hc => ?_) fun zz1 zz2 hF => hF.elim)))
  rw [hc.1]
  exact kasC_pure ⟨h, hc.2⟩
theorem elem_at {p : Array Nat} {i : Nat} (hi : i < p.size) : elem' (p.map (kas_item it)) i = pure (kas_item it (p.getD i 0)) := by
  rw [elem'_eq]
  have e : p.getD i 0 = p[i] := by simp [Array.getD, hi]
  rw [e]
  simp [hi]
theorem KP.of {σ α : Type} {M : Model} {m : StateT σ Sem α} {P : α → σ → Prop} {st : σ} (h : KP M A E I m P st) (s : Shared) (hs : I s) : wpAny M A (m st) (fun r s' => (fun a st' s' => P a st' ∧ I s') r.fst r.snd s') E s := h s hs
/- on which side of the key -/
noncomputable abbrev bey (lt : Nat → Nat → Bool) (left : Bool) (k : Nat) (p : Array Nat) (i : Nat) : Bool := if left = true then lt (p.getD i 0) k else !lt k (p.getD i 0)
theorem KP.beyond {left : Bool} {k i : Nat} {p : Array Nat} {st : SortSt} {P : Option Bool → SortSt → Prop} (H : Asks prog w A I κ it lt N) (hp : ∀ i, i < p.size → p.getD i 0 < N) (hk : k < N) (hi : i < p.size) (hκ : kindOf st = κ) (h : P (some (bey lt left k p i)) st) :
    KP (model prog w) A E I (elem' (p.map (kas_item it)) i >>= fun x => if left = true then lt' x (kas_item it k) else lt' (kas_item it k) x >>= fun r => Pure.pure (Option.map (fun b => !b) r)) P st := by
  rw [elem_at hi]
  refine .bind (.pure ?_)
  cases left with
  | true =>
    rw [if_pos rfl]
    exact KP.ask H (hp i hi) hk hκ h
  | false =>
    rw [if_neg (by simp)]
    exact .bind (KP.ask H hk (hp i hi) hκ (.pure h))
/- a gallop finds how many stand ahead of the key -/
theorem mid_lt {lo hi : Nat} (h : lo < hi) : lo + (hi - lo) / 2 < hi :=
  Nat.lt_of_lt_of_eq (Nat.add_lt_add_left (Nat.div_lt_self (Nat.sub_pos_of_lt h) (Nat.lt_succ_self 1)) lo) (Nat.add_sub_of_le (Nat.le_of_lt h))
theorem gallop_ok {left : Bool} {k base n hint c : Nat} {p : Array Nat} {st : SortSt} {P : Option Nat → SortSt → Prop} (H : Asks prog w A I κ it lt N) (hp : ∀ i, i < p.size → p.getD i 0 < N) (hk : k < N) (hn : base + n ≤ p.size) (hh : hint < n) (hκ : kindOf st = κ)
    (hc : c ≤ n) (h1 : ∀ i, i < c → bey lt left k p (base + i) = true) (h2 : ∀ i, c ≤ i → i < n → bey lt left k p (base + i) = false) (h : P (some c) st) :
    KP (model prog w) A E I (gallopP left (kas_item it k) (p.map (kas_item it)) base n hint) P st := fun s hs => by
  unfold kasC
  wp_delta
  wp_delta
  wp_delta
  refine KP.of ?_ s hs
  have first : ∀ (i : Nat), i < n → base + i < p.size := fun i hi => Nat.lt_of_lt_of_le (Nat.add_lt_add_left hi base) hn
  have en : hint + (n - hint) = n := Nat.add_sub_of_le (Nat.le_of_lt hh)
  have tw : ∀ x : Nat, x ≤ 2 * x := fun x => Nat.le_mul_of_pos_left x Nat.two_pos
  have le1 : ∀ i, i < n → bey lt left k p (base + i) = true → i < c := fun i hi hb => by
    by_cases z : i < c
    · exact z
    · rw [h2 i (Nat.le_of_not_lt z) hi] at hb; cases hb
  have le2 : ∀ i, bey lt left k p (base + i) = false → c ≤ i := fun i hb => by
    by_cases z : i < c
    · rw [h1 i z] at hb; cases hb
    · exact Nat.le_of_not_lt z
  refine .bind (KP.beyond H hp hk (first hint hh) hκ ?_)
  dsimp (config := {zeta := false, zetaHave := false}) only
  extract_lets -underBinder +onlyGivenNames jp
  have hjp : ∀ u la of lo hi, lo ≤ c → c ≤ hi → hi ≤ n → KP (model prog w) A E I (jp u la of lo hi) P st := by
    intro _ la of lo hi hlo hhi hhn
    dsimp (config := {zeta := false, zetaHave := false}) only [jp]
    refine .bind (KP.range (P := fun r st' => st' = st ∧ r = (none, c, c)) (fun i r st' => st' = st ∧ ∃ lo hi, r = (none, lo, hi) ∧ lo ≤ c ∧ c ≤ hi ∧ hi ≤ n ∧ hi + i ≤ n + lo) ⟨rfl, lo, hi, rfl, hlo, hhi, hhn, Nat.le_trans hhn (Nat.le_add_right n lo)⟩ (fun x i r st' hi' hJ' => ?_) (fun r st' hJ' => ?_) |>.mono fun r st' hJ' => ?_)
    · obtain ⟨rfl, lo, hi, rfl, l1, l2, l3, l4⟩ := hJ'
      refine KP.ite (c := lo ≥ hi) (fun hge => ?_) fun hge => ?_
      · exact .pure ⟨rfl, by show (none, lo, hi) = (none, c, c); rw [Nat.le_antisymm l1 (Nat.le_trans l2 hge), Nat.le_antisymm (Nat.le_trans hge l1) l2]⟩
      · have b1 := mid_lt (Nat.lt_of_not_le hge)
        have m1 : lo ≤ lo + (hi - lo) / 2 := Nat.le_add_right _ _
        generalize lo + (hi - lo) / 2 = m at b1 m1 ⊢
        refine .bind (KP.beyond H hp hk (first m (Nat.lt_of_lt_of_le b1 l3)) hκ ?_)
        refine KP.ite (c := bey lt left k p (base + m) = true) (fun q => ?_) fun q => ?_
        · exact .pure ⟨rfl, _, _, rfl, le1 _ (Nat.lt_of_lt_of_le b1 l3) q, l2, l3, Nat.succ_le_succ (Nat.le_trans l4 (Nat.add_le_add_left m1 n))⟩
        · exact .pure ⟨rfl, _, _, rfl, l1, le2 _ (by simpa using q), Nat.le_trans (Nat.le_of_lt b1) l3, Nat.lt_of_lt_of_le (Nat.add_lt_add_right b1 i) l4⟩
    · obtain ⟨rfl, lo, hi, rfl, l1, l2, l3, l4⟩ := hJ'
      have hge : hi ≤ lo := by lia
      exact ⟨rfl, by rw [Nat.le_antisymm l1 (Nat.le_trans l2 hge), Nat.le_antisymm (Nat.le_trans hge l1) l2]⟩
    · obtain ⟨rfl, rfl⟩ := hJ'
      exact .pure h
  clear_value jp
  refine KP.ite (c := bey lt left k p (base + hint) = true) (fun hr => ?_) fun hr => ?_
  · refine .bind (KP.range (P := fun r st' => st' = st ∧ ∃ la of, r = (none, la, of) ∧ hint + la < c ∧ c ≤ hint + min of (n - hint)) (fun i r st' => st' = st ∧ ∃ la of, r = (none, la, of) ∧ la < of ∧ i + 1 ≤ of ∧ hint + la < n ∧ bey lt left k p (base + (hint + la)) = true)
      ⟨rfl, 0, 1, rfl, Nat.one_pos, Nat.le_refl _, hh, hr⟩ (fun x i r st' hi' hJ => ?_) (fun r st' hJ => ?_) |>.mono fun r st' hJ => ?_)
    · obtain ⟨rfl, la, of, rfl, l1, l2, l3, l4⟩ := hJ
      refine KP.ite (c := of ≥ n - hint) (fun hge => ?_) fun hge => ?_
      · exact .pure ⟨rfl, la, of, rfl, le1 _ l3 l4, by rw [Nat.min_eq_right hge, en]; exact hc⟩
      · have b1 : hint + of < n := Nat.add_lt_of_lt_sub' (Nat.lt_of_not_le hge)
        refine .bind (KP.beyond H hp hk (first (hint + of) b1) hκ ?_)
        refine KP.ite (c := (!bey lt left k p (base + (hint + of))) = true) (fun q => ?_) fun q => ?_
        · have q' := le2 (hint + of) (by simpa using q)
          exact .pure ⟨rfl, la, of, rfl, le1 _ l3 l4, by rw [Nat.min_eq_left (Nat.le_of_not_le hge)]; exact q'⟩
        · exact .pure ⟨rfl, of, 2 * of + 1, rfl, Nat.lt_succ_of_le (tw of), Nat.succ_le_succ (Nat.le_trans l2 (tw of)), b1, by simpa using q⟩
    · obtain ⟨rfl, la, of, rfl, l1, l2, l3, l4⟩ := hJ
      exact ⟨rfl, la, of, rfl, le1 _ l3 l4, by rw [Nat.min_eq_right (by lia), en]; exact hc⟩
    · obtain ⟨rfl, la, of, rfl, l1, l2⟩ := hJ
      exact hjp () la of _ _ l1 l2 (Nat.le_trans (Nat.add_le_add_left (Nat.min_le_right _ _) _) (Nat.le_of_eq en))
  · have hr' : bey lt left k p (base + hint) = false := by simpa using hr
    refine .bind (KP.range (P := fun r st' => st' = st ∧ ∃ la of, r = (none, la, of) ∧ hint + 1 - min of (hint + 1) ≤ c ∧ c ≤ hint - la) (fun i r st' => st' = st ∧ ∃ la of, r = (none, la, of) ∧ la < of ∧ i + 1 ≤ of ∧ la ≤ hint ∧ bey lt left k p (base + (hint - la)) = false)
      ⟨rfl, 0, 1, rfl, Nat.one_pos, Nat.le_refl _, Nat.zero_le _, hr'⟩ (fun x i r st' hi' hJ => ?_) (fun r st' hJ => ?_) |>.mono fun r st' hJ => ?_)
    · obtain ⟨rfl, la, of, rfl, l1, l2, l3, l4⟩ := hJ
      refine KP.ite (c := of ≥ hint + 1) (fun hge => ?_) fun hge => ?_
      · exact .pure ⟨rfl, la, of, rfl, by rw [Nat.min_eq_right hge, Nat.sub_self]; exact Nat.zero_le _, le2 _ l4⟩
      · have b1 : hint - of < n := Nat.lt_of_le_of_lt (Nat.sub_le _ _) hh
        refine .bind (KP.beyond H hp hk (first (hint - of) b1) hκ ?_)
        refine KP.ite (c := bey lt left k p (base + (hint - of)) = true) (fun q => ?_) fun q => ?_
        · have q' := le1 (hint - of) b1 q
          exact .pure ⟨rfl, la, of, rfl, by rw [Nat.min_eq_left (Nat.le_of_not_le hge), Nat.succ_sub (Nat.le_of_lt_succ (Nat.lt_of_not_le hge))]; exact q', le2 _ l4⟩
        · exact .pure ⟨rfl, of, 2 * of + 1, rfl, Nat.lt_succ_of_le (tw of), Nat.succ_le_succ (Nat.le_trans l2 (tw of)), Nat.le_of_lt_succ (Nat.lt_of_not_le hge), by simpa using q⟩
    · obtain ⟨rfl, la, of, rfl, l1, l2, l3, l4⟩ := hJ
      exact ⟨rfl, la, of, rfl, by rw [Nat.min_eq_right (by lia), Nat.sub_self]; exact Nat.zero_le _, le2 _ l4⟩
    · obtain ⟨rfl, la, of, rfl, l1, l2⟩ := hJ
      exact hjp () la of _ _ l1 l2 (Nat.le_trans (Nat.sub_le _ _) (Nat.le_of_lt hh))
end
end Mine


set_option maxHeartbeats 1000000

namespace Mine
open PySem PyProof.Rows

/- ### two runs merged, in plain lists -/
theorem mono_cut {f : Nat → Bool} : ∀ (n : Nat), (∀ i j, i ≤ j → j < n → f j = true → f i = true) → ∃ c, c ≤ n ∧ (∀ i, i < c → f i = true) ∧ ∀ i, c ≤ i → i < n → f i = false
  | 0, _ => ⟨0, Nat.le_refl _, fun i h => by lia, fun i zz1 h => by lia⟩
  | n + 1, h => by
    obtain ⟨c, h1, h2, h3⟩ := mono_cut n fun i j a b => h i j a (by lia)
    cases q : f n with
    | false => exact ⟨c, by lia, h2, fun i a b => (Nat.lt_or_eq_of_le (Nat.le_of_lt_succ b)).elim (h3 i a) fun e => e ▸ q⟩
    | true => exact ⟨n + 1, Nat.le_refl _, fun i hi => h i n (by lia) (by lia) q, fun i a b => by lia⟩
section
variable {lt : Nat → Nat → Bool} (O : SOrd lt)
include O
theorem Bf.trans {a b c : Nat} (h1 : Bf lt a b) (h2 : Bf lt b c) : Bf lt a c := by
  rcases h1 with h1 | ⟨h1, l1⟩
  · exact .inl (O.lt_ge h1 (Bf.ge O h2))
  · rcases h2 with h2 | ⟨h2, l2⟩
    · exact .inl (O.ge_lt h1 h2)
    · cases q : lt a c with
      | true => exact .inl q
      | false => exact .inr ⟨O.ge_trans h1 h2, by lia⟩
theorem Bf.of_not {a b : Nat} (h : lt b a = false) (l : a < b) : Bf lt a b := by
  cases q : lt a b with
  | true => exact .inl q
  | false => exact .inr ⟨h, l⟩
end
structure MI (lt : Nat → Nat → Bool) (la lb qo ra rb : List Nat) : Prop where
  perm : (qo ++ (ra ++ rb)).Perm (la ++ lb)
  sa : (qo ++ ra).Pairwise (Bf lt)
  sb : (qo ++ rb).Pairwise (Bf lt)
  ix : ∀ x ∈ ra, ∀ y ∈ rb, x < y
section
variable {lt : Nat → Nat → Bool} {la lb qo ra rb : List Nat}
theorem MI.tb {ys rb' : List Nat} (h : MI lt la lb qo ra (ys ++ rb')) (k : ∀ y ∈ ys, ∀ x ∈ ra, Bf lt y x) : MI lt la lb (qo ++ ys) ra rb' := by
  obtain ⟨p, sa, sb, ix⟩ := h
  rw [List.pairwise_append] at sa sb
  refine ⟨?_, ?_, ?_, fun x hx y hy => ix x hx y (List.mem_append_right _ hy)⟩
  · refine List.Perm.trans ?_ p
    rw [List.append_assoc]
    refine List.Perm.append_left _ ?_
    rw [← List.append_assoc, ← List.append_assoc]
    exact List.Perm.append_right _ List.perm_append_comm
  · rw [List.append_assoc, List.pairwise_append, List.pairwise_append]
    have s2 := List.pairwise_append.mp sb.2.1
    refine ⟨sa.1, ⟨s2.1, sa.2.1, fun y hy x hx => k y hy x hx⟩, fun q hq z hz => ?_⟩
    rcases List.mem_append.mp hz with hz | hz
    · exact sb.2.2 q hq z (List.mem_append_left _ hz)
    · exact sa.2.2 q hq z hz
  · rw [List.append_assoc, List.pairwise_append]; exact sb
theorem MI.ta {xs ra' : List Nat} (h : MI lt la lb qo (xs ++ ra') rb) (k : ∀ x ∈ xs, ∀ y ∈ rb, Bf lt x y) : MI lt la lb (qo ++ xs) ra' rb := by
  obtain ⟨p, sa, sb, ix⟩ := h
  rw [List.pairwise_append] at sa sb
  refine ⟨?_, ?_, ?_, fun x hx y hy => ix x (List.mem_append_right _ hx) y hy⟩
  · refine List.Perm.trans ?_ p
    rw [List.append_assoc, List.append_assoc]
  · rw [List.append_assoc, List.pairwise_append]; exact sa
  · rw [List.append_assoc, List.pairwise_append, List.pairwise_append]
    have s2 := List.pairwise_append.mp sa.2.1
    refine ⟨sa.1, ⟨s2.1, sb.2.1, fun x hx y hy => k x hx y hy⟩, fun q hq z hz => ?_⟩
    rcases List.mem_append.mp hz with hz | hz
    · exact sa.2.2 q hq z (List.mem_append_left _ hz)
    · exact sb.2.2 q hq z hz
/- a later one comes behind the head -/
theorem Pairwise.head_all (O : SOrd lt) {x : Nat} {l : List Nat} (h : (x :: l).Pairwise (Bf lt)) {y : Nat} (hy : Bf lt y x) : ∀ z ∈ x :: l, Bf lt y z := fun z hz => by
  rcases List.mem_cons.mp hz with rfl | hz
  · exact hy
  · exact Bf.trans O hy ((List.pairwise_cons.mp h).1 z hz)
theorem MI.done1 (h : MI lt la lb qo ra []) : (qo ++ ra).Perm (la ++ lb) ∧ (qo ++ ra).Pairwise (Bf lt) := ⟨by have := h.perm; rwa [List.append_nil] at this, h.sa⟩
theorem MI.done2 {z : Nat} (h : MI lt la lb qo [z] rb) (hz : ∀ y ∈ rb, Bf lt y z) : (qo ++ (rb ++ [z])).Perm (la ++ lb) ∧ (qo ++ (rb ++ [z])).Pairwise (Bf lt) := by
  refine ⟨(List.Perm.append_left _ List.perm_append_comm).trans h.perm, ?_⟩
  have s1 := List.pairwise_append.mp h.sa
  have s2 := List.pairwise_append.mp h.sb
  rw [List.pairwise_append, List.pairwise_append]
  refine ⟨s1.1, ⟨s2.2.1, List.pairwise_singleton _ _, fun y hy x hx => by rw [List.mem_singleton.mp hx]; exact hz y hy⟩, fun q hq w hw => ?_⟩
  rcases List.mem_append.mp hw with hw | hw
  · exact s2.2.2 q hq w hw
  · exact s1.2.2 q hq w hw
end
end Mine


set_option maxHeartbeats 2000000

namespace Mine
open PySem PyProof.Rows
noncomputable abbrev mergeLoP : Array Keyed → Array Keyed → StateT SortSt Sem (Array Keyed) := sortPriv% PySem.Builtin.mergeLo
noncomputable abbrev setGallopP : Nat → StateT SortSt Sem Unit := sortPriv% PySem.Builtin.setMinGallop
noncomputable abbrev KA := Array Keyed
noncomputable abbrev LG := Option KA × KA × Nat × Nat × Nat × Nat × Nat
noncomputable abbrev LI := Option KA × KA × Nat × Nat × Nat × Nat
noncomputable abbrev LO := Option KA × KA × Nat × Nat × Nat
noncomputable def loDone (a b out : KA) (ia ib : Nat) : KA := out ++ a.extract ia a.size ++ b.extract ib b.size
noncomputable def loLast (a b out : KA) (ia ib : Nat) : KA := out ++ b.extract ib b.size ++ a.extract ia a.size
noncomputable def loE (a b : KA) (mg ac bc : Nat) (out : KA) (ia ib : Nat) : StateT SortSt Sem (ForInStep LG) := do
  let x ← elem' a ia
  if (ia + 1 + 1 == a.size) = true then pure (.done (some (loLast a b (out.push x) (ia + 1) ib), out.push x, ia + 1, ib, mg, ac, bc))
  else if (decide (ac < 7) && decide (bc < 7)) = true then pure (.done (none, out.push x, ia + 1, ib, mg, ac, bc))
  else pure (.yield (none, out.push x, ia + 1, ib, mg, ac, bc))
noncomputable def loD (a b : KA) (mg ac bc : Nat) (out : KA) (ia ib : Nat) (k : Option Nat) : StateT SortSt Sem (ForInStep LG) :=
  match k with
  | some k =>
    if k > 0 then
      if (ib + k == b.size) = true then pure (.done (some (loDone a b (out ++ b.extract ib (ib + k)) ia (ib + k)), out ++ b.extract ib (ib + k), ia, ib + k, mg, ac, k))
      else loE a b mg ac k (out ++ b.extract ib (ib + k)) ia (ib + k)
    else loE a b mg ac k out ia ib
  | none => pure (.done (some (loDone a b out ia ib), out, ia, ib, mg, ac, bc))
noncomputable def loC (a b : KA) (mg ac bc : Nat) (out : KA) (ia ib : Nat) : StateT SortSt Sem (ForInStep LG) := do
  let x ← elem' b ib
  if (ib + 1 == b.size) = true then pure (.done (some (loDone a b (out.push x) ia (ib + 1)), out.push x, ia, ib + 1, mg, ac, bc))
  else do
    let y ← elem' a ia
    let k ← gallopP true y b (ib + 1) (b.size - (ib + 1)) 0
    loD a b mg ac bc (out.push x) ia (ib + 1) k
noncomputable def loB2 (a b : KA) (mg ac bc : Nat) (out : KA) (ia ib : Nat) (k : Option Nat) : StateT SortSt Sem (ForInStep LG) :=
  match k with
  | some k =>
    if k > 0 then
      if (ia + k + 1 == a.size) = true then pure (.done (some (loLast a b (out ++ a.extract ia (ia + k)) (ia + k) ib), out ++ a.extract ia (ia + k), ia + k, ib, mg, k, bc))
      else if (ia + k == a.size) = true then pure (.done (some (loDone a b (out ++ a.extract ia (ia + k)) (ia + k) ib), out ++ a.extract ia (ia + k), ia + k, ib, mg, k, bc))
      else loC a b mg k bc (out ++ a.extract ia (ia + k)) (ia + k) ib
    else loC a b mg k bc out ia ib
  | none => pure (.done (some (loDone a b out ia ib), out, ia, ib, mg, ac, bc))
noncomputable def loB (a b : KA) (mg ac bc : Nat) (out : KA) (ia ib : Nat) : StateT SortSt Sem (ForInStep LG) := do
  setGallopP mg
  let y ← elem' b ib
  let k ← gallopP false y a ia (a.size - ia) 0
  loB2 a b mg ac bc out ia ib k
noncomputable def loG (a b : KA) (_ : Nat) (s : LG) : StateT SortSt Sem (ForInStep LG) :=
  if s.2.2.2.2.1 > 1 then loB a b (s.2.2.2.2.1 - 1) s.2.2.2.2.2.1 s.2.2.2.2.2.2 s.2.1 s.2.2.1 s.2.2.2.1 else loB a b s.2.2.2.2.1 s.2.2.2.2.2.1 s.2.2.2.2.2.2 s.2.1 s.2.2.1 s.2.2.2.1
noncomputable def loI2 (a b : KA) (mg : Nat) (s : LI) (r : Option Bool) : StateT SortSt Sem (ForInStep LI) :=
  match r with
  | some bw =>
    if bw = true then do
      let x ← elem' b s.2.2.2.1
      if (s.2.2.2.1 + 1 == b.size) = true then pure (.done (some (loDone a b (s.2.1.push x) s.2.2.1 (s.2.2.2.1 + 1)), s.2.1.push x, s.2.2.1, s.2.2.2.1 + 1, 0, s.2.2.2.2.2 + 1))
      else if s.2.2.2.2.2 + 1 ≥ mg then pure (.done (none, s.2.1.push x, s.2.2.1, s.2.2.2.1 + 1, 0, s.2.2.2.2.2 + 1))
      else pure (.yield (none, s.2.1.push x, s.2.2.1, s.2.2.2.1 + 1, 0, s.2.2.2.2.2 + 1))
    else do
      let x ← elem' a s.2.2.1
      if (s.2.2.1 + 1 + 1 == a.size) = true then pure (.done (some (loLast a b (s.2.1.push x) (s.2.2.1 + 1) s.2.2.2.1), s.2.1.push x, s.2.2.1 + 1, s.2.2.2.1, s.2.2.2.2.1 + 1, 0))
      else if s.2.2.2.2.1 + 1 ≥ mg then pure (.done (none, s.2.1.push x, s.2.2.1 + 1, s.2.2.2.1, s.2.2.2.2.1 + 1, 0))
      else pure (.yield (none, s.2.1.push x, s.2.2.1 + 1, s.2.2.2.1, s.2.2.2.2.1 + 1, 0))
  | none => pure (.done (some (loDone a b s.2.1 s.2.2.1 s.2.2.2.1), s.2.1, s.2.2.1, s.2.2.2.1, s.2.2.2.2.1, s.2.2.2.2.2))
noncomputable def loI (a b : KA) (mg : Nat) (_ : Nat) (s : LI) : StateT SortSt Sem (ForInStep LI) := do
  let y ← elem' b s.2.2.2.1
  let x ← elem' a s.2.2.1
  let r ← lt' y x
  loI2 a b mg s r
noncomputable def loO3 (s : LG) : StateT SortSt Sem (ForInStep LO) :=
  match s.1 with
  | some r => pure (.done (some r, s.2.1, s.2.2.1, s.2.2.2.1, s.2.2.2.2.1))
  | none => do
    setGallopP (s.2.2.2.2.1 + 1)
    pure (.yield (none, s.2.1, s.2.2.1, s.2.2.2.1, s.2.2.2.2.1 + 1))
noncomputable def loO2 (a b : KA) (total mg : Nat) (s : LI) : StateT SortSt Sem (ForInStep LO) :=
  match s.1 with
  | some r => pure (.done (some r, s.2.1, s.2.2.1, s.2.2.2.1, mg))
  | none => do
    liftM (rule "list.sort.gallop")
    let r ← forIn [:total] ((none, s.2.1, s.2.2.1, s.2.2.2.1, mg + 1, s.2.2.2.2.1, s.2.2.2.2.2) : LG) (loG a b)
    loO3 r
noncomputable def loO (a b : KA) (total : Nat) (_ : Nat) (s : LO) : StateT SortSt Sem (ForInStep LO) := do
  let r ← forIn [:total] ((none, s.2.1, s.2.2.1, s.2.2.2.1, 0, 0) : LI) (loI a b s.2.2.2.2)
  loO2 a b total s.2.2.2.2 r
noncomputable def loM2 (s : LO) : StateT SortSt Sem KA :=
  match s.1 with
  | some r => pure r
  | none => unsupported "internal:list.sort.merge-bound"
noncomputable def loM (a b : KA) : StateT SortSt Sem KA := do
  liftM (rule "list.sort.merge-lo")
  let x ← elem' b 0
  if (1 == b.size) = true then pure (loDone a b #[x] 0 1)
  else if (0 + 1 == a.size) = true then pure (loLast a b #[x] 0 1)
  else do
    let st ← get
    let r ← forIn [:a.size + b.size] ((none, #[x], 0, 1, gallopOf st) : LO) (loO a b (a.size + b.size))
    loM2 r
theorem KP.eq {M : Model} {A : Around} {E : Value → Shared → Prop} {I : Shared → Prop} {σ α : Type} {st : σ} {P : α → σ → Prop} {m m' : StateT σ Sem α} (e : m = m') (h : KP M A E I m' P st) : KP M A E I m P st := e ▸ h
section
variable {σ α β : Type}
theorem bind_eq {x x' : StateT σ Sem α} {f f' : α → StateT σ Sem β} (hx : x = x') (hf : ∀ a, f a = f' a) : x >>= f = x' >>= f' := by rw [hx, show f = f' from funext hf]
theorem forIn_eq {r : Std.Legacy.Range} {c : β} {f f' : Nat → β → StateT σ Sem (ForInStep β)} (h : ∀ x s, f x s = f' x s) : forIn r c f = forIn r c f' := by rw [show f = f' from funext fun x => funext (h x)]
theorem ite_eq {c : Prop} [Decidable c] {x x' y y' : StateT σ Sem α} (h1 : x = x') (h2 : y = y') : (if c then x else y) = if c then x' else y' := by rw [h1, h2]
end
theorem loM_of {prog : Program} {w : World} {A : Around} {E : Value → Shared → Prop} {I : Shared → Prop} {a b : KA} {st : SortSt} {P : KA → SortSt → Prop} (h : KP (model prog w) A E I (loM a b) P st) : KP (model prog w) A E I (mergeLoP a b) P st := fun s hs => by
  unfold kasC
  wp_delta
  wp_delta
  wp_delta
  refine KP.of ?_ s hs
  refine KP.eq ?_ h
  clear h
  refine bind_eq rfl fun zz1 => bind_eq rfl fun x => ite_eq rfl (ite_eq rfl (bind_eq rfl fun st => bind_eq (forIn_eq fun zz1 s => ?_) fun r => ?_))
  · refine bind_eq (forIn_eq fun zz1 s2 => bind_eq rfl fun q1 => bind_eq rfl fun q2 => bind_eq rfl fun r => ?_) fun r => ?_
    · cases r with
      | none => rfl
      | some b => rfl
    · obtain ⟨r1, r2⟩ := r
      cases r1 with
      | some r => rfl
      | none =>
        refine bind_eq rfl fun zz1 => bind_eq (forIn_eq fun zz1 s3 => ?_) fun r => ?_
        · extract_lets -underBinder +onlyGivenNames s1 v1 s2 v2 s3 v3 s4 v4 s5 v5 v6 jp
          have hjp : ∀ u mg, jp u mg = loB a b mg v5 v6 v1 v2 v3 := fun zz1 mg => by
            dsimp (config := {zeta := false, zetaHave := false}) only [jp]
            refine bind_eq rfl fun zz1 => bind_eq rfl fun y => bind_eq rfl fun r => ?_
            cases r with
            | none => rfl
            | some k =>
              dsimp (config := {zeta := false, zetaHave := false}) only
              extract_lets -underBinder +onlyGivenNames k1 jp2
              have hjp2 : ∀ u out ia, jp2 u out ia = loC a b mg k v6 out ia v3 := fun zz1 out ia => by
                dsimp (config := {zeta := false, zetaHave := false}) only [jp2]
                refine bind_eq rfl fun x => ite_eq rfl (bind_eq rfl fun y => bind_eq rfl fun r => ?_)
                cases r with
                | none => rfl
                | some k' =>
                  dsimp (config := {zeta := false, zetaHave := false}) only
                  extract_lets -underBinder +onlyGivenNames k2 jp3
                  have hjp3 : ∀ u out' ib', jp3 u out' ib' = loE a b mg k k' out' ia ib' := fun zz1 out' ib' => rfl
                  clear_value jp3
                  exact ite_eq (ite_eq rfl (hjp3 _ _ _)) (hjp3 _ _ _)
              clear_value jp2
              exact ite_eq (ite_eq rfl (ite_eq rfl (hjp2 _ _ _))) (hjp2 _ _ _)
          clear_value jp
          exact ite_eq (hjp _ _) (hjp _ _)
        · obtain ⟨r1, r2⟩ := r
          cases r1 <;> rfl
  · obtain ⟨r1, r2⟩ := r
    cases r1 <;> rfl
end Mine


set_option maxHeartbeats 4000000

namespace Mine
open PySem PyProof.Rows
/- the items of a list of places -/
noncomputable def tI (it : Array Keyed) (l : List Nat) : Array Keyed := l.toArray.map (kas_item it)
section
variable {it : Array Keyed}
theorem tI_size (l : List Nat) : (tI it l).size = l.length := by unfold tI; rw [Array.size_map, List.size_toArray]
theorem tI_push (q : List Nat) (x : Nat) : (tI it q).push (kas_item it x) = tI it (q ++ [x]) := by
  unfold tI; rw [← List.append_toArray]; simp
theorem tI_app (q r : List Nat) : tI it q ++ tI it r = tI it (q ++ r) := by
  unfold tI; rw [← List.append_toArray, Array.map_append]
theorem tI_ext (l : List Nat) (i j : Nat) : (tI it l).extract i j = tI it ((l.take j).drop i) := by
  unfold tI
  rw [← Array.toList_inj]
  simp [List.map_take, List.map_drop, List.extract_eq_take_drop, List.drop_take]
theorem tI_all (l : List Nat) (i : Nat) : (tI it l).extract i (tI it l).size = tI it (l.drop i) := by
  rw [tI_ext, tI_size, List.take_length]
theorem tI_elem {l : List Nat} {i : Nat} (h : i < l.length) : elem' (tI it l) i = pure (kas_item it (l.getD i 0)) := by
  unfold tI
  rw [elem_at (by rw [List.size_toArray]; exact h)]
  congr 2
  simp [h]
end
/- all but the gallop's measure is kept -/
structure SG (st st' : SortSt) : Prop where
  k : kindOf st' = kindOf st
  a : arrOf st' = arrOf st
  p : pendingOf st' = pendingOf st
  f : failedOf st' = failedOf st
theorem SG.refl (st : SortSt) : SG st st := ⟨rfl, rfl, rfl, rfl⟩
theorem SG.trans {a b c : SortSt} (x : SG a b) (y : SG b c) : SG a c := ⟨y.k.trans x.k, y.a.trans x.a, y.p.trans x.p, y.f.trans x.f⟩
theorem drop_head {l : List Nat} {i : Nat} (h : i < l.length) : l.drop i = l.getD i 0 :: l.drop (i + 1) := by
  rw [List.drop_eq_getElem_cons h]; congr 1; simp [h]
section
variable {prog : Program} {w : World} {A : Around} {E : Value → Shared → Prop} {I : Shared → Prop} {κ : SortKind} {it : Array Keyed} {lt : Nat → Nat → Bool} {N : Nat}
theorem KP.elem {l : List Nat} {i : Nat} {st : SortSt} {P : Keyed → SortSt → Prop} (h : i < l.length) (q : P (kas_item it (l.getD i 0)) st) : KP (model prog w) A E I (elem' (tI it l) i) P st := by
  rw [tI_elem h]; exact .pure q
theorem KP.setGallop {g : Nat} {st : SortSt} {P : Unit → SortSt → Prop} (q : ∀ st', SG st st' → P () st') : KP (model prog w) A E I (setGallopP g) P st := fun s hs => by
  refine KP.modify (f := fun st => SortSt.mk' (kindOf st) (arrOf st) (pendingOf st) g (failedOf st)) (q _ ⟨rfl, rfl, rfl, rfl⟩) s hs
noncomputable def PR (lt : Nat → Nat → Bool) (it : Array Keyed) (la lb : List Nat) (r : Array Keyed) : Prop := ∃ ro, r = tI it ro ∧ ro.Perm (la ++ lb) ∧ ro.Pairwise (Bf lt)
theorem PR.done {la lb qo : List Nat} {ia ib : Nat} (h : MI lt la lb qo (la.drop ia) (lb.drop ib)) (hb : lb.length ≤ ib) : PR lt it la lb (tI it qo ++ (tI it la).extract ia (tI it la).size ++ (tI it lb).extract ib (tI it lb).size) := by
  rw [tI_all, tI_all, tI_app, tI_app]
  rw [List.drop_eq_nil_of_le hb] at h ⊢
  have := h.done1
  exact ⟨_, rfl, by rw [List.append_nil]; exact this.1, by rw [List.append_nil]; exact this.2⟩
theorem PR.last {la lb qo : List Nat} {ia ib z : Nat} (h : MI lt la lb qo (la.drop ia) (lb.drop ib)) (ha : la.drop ia = [z]) (hz : ∀ y ∈ lb, Bf lt y z) : PR lt it la lb (tI it qo ++ (tI it lb).extract ib (tI it lb).size ++ (tI it la).extract ia (tI it la).size) := by
  rw [tI_all, tI_all, tI_app, tI_app]
  rw [ha] at h ⊢
  have := h.done2 fun y hy => hz y (List.mem_of_mem_drop hy)
  exact ⟨_, rfl, by rw [List.append_assoc]; exact this.1, by rw [List.append_assoc]; exact this.2⟩
theorem drop_split (l : List Nat) (i c : Nat) (h : i + c ≤ l.length) : l.drop i = (l.take (i + c)).drop i ++ l.drop (i + c) := by
  have e : l = l.take (i + c) ++ l.drop (i + c) := (List.take_append_drop _ _).symm
  have h2 : i ≤ (l.take (i + c)).length := by rw [List.length_take]; lia
  calc l.drop i = (l.take (i + c) ++ l.drop (i + c)).drop i := by rw [← e]
    _ = _ := by rw [List.drop_append_of_le_length h2]
theorem mem_split {l : List Nat} {i c x : Nat} (h : x ∈ (l.take (i + c)).drop i) : ∃ j, j < c ∧ i + j < l.length ∧ x = l.getD (i + j) 0 := by
  obtain ⟨j, hj, e⟩ := List.getElem_of_mem h
  rw [List.length_drop, List.length_take] at hj
  refine ⟨j, by lia, by lia, ?_⟩
  rw [← e, List.getElem_drop, List.getElem_take]
  simp [show i + j < l.length by lia]
theorem toArray_getD (l : List Nat) (i : Nat) : l.toArray.getD i 0 = l.getD i 0 := by
  by_cases h : i < l.length
  · simp [h]
  · simp [Nat.le_of_not_lt h]
theorem gallop_t {left : Bool} {k base n hint c : Nat} {l : List Nat} {st : SortSt} {P : Option Nat → SortSt → Prop} (H : Asks prog w A I κ it lt N) (hl : ∀ i, i < l.length → l.getD i 0 < N) (hk : k < N) (hn : base + n ≤ l.length) (hh : hint < n) (hκ : kindOf st = κ)
    (hc : c ≤ n) (h1 : ∀ i, i < c → (if left = true then lt (l.getD (base + i) 0) k else !lt k (l.getD (base + i) 0)) = true) (h2 : ∀ i, c ≤ i → i < n → (if left = true then lt (l.getD (base + i) 0) k else !lt k (l.getD (base + i) 0)) = false) (h : P (some c) st) :
    KP (model prog w) A E I (gallopP left (kas_item it k) (tI it l) base n hint) P st :=
  gallop_ok (p := l.toArray) H (fun i hi => by rw [toArray_getD]; exact hl i (by simpa using hi)) hk (by rw [List.size_toArray]; exact hn) hh hκ hc (fun i hi => by rw [bey, toArray_getD]; exact h1 i hi) (fun i a b => by rw [bey, toArray_getD]; exact h2 i a b) h
end
/- what the merge of two runs from the front rests on -/
structure LoH (lt : Nat → Nat → Bool) (N : Nat) (la lb : List Nat) : Prop where
  ga : ∀ i, i < la.length → la.getD i 0 < N
  gb : ∀ i, i < lb.length → lb.getD i 0 < N
  one : ∀ ia, ia + 1 = la.length → la.drop ia = [la.getD (la.length - 1) 0]
  stepB : ∀ {qo ia ib}, MI lt la lb qo (la.drop ia) (lb.drop ib) → ia < la.length → ib < lb.length → lt (lb.getD ib 0) (la.getD ia 0) = true → MI lt la lb (qo ++ [lb.getD ib 0]) (la.drop ia) (lb.drop (ib + 1))
  stepA : ∀ {qo ia ib}, MI lt la lb qo (la.drop ia) (lb.drop ib) → ia < la.length → ib < lb.length → lt (lb.getD ib 0) (la.getD ia 0) = false → MI lt la lb (qo ++ [la.getD ia 0]) (la.drop (ia + 1)) (lb.drop ib)
  blockA : ∀ {qo ia ib c}, MI lt la lb qo (la.drop ia) (lb.drop ib) → ia + c ≤ la.length → ib < lb.length → (∀ i, i < c → lt (lb.getD ib 0) (la.getD (ia + i) 0) = false) → MI lt la lb (qo ++ (la.take (ia + c)).drop ia) (la.drop (ia + c)) (lb.drop ib)
  blockB : ∀ {qo ia ib c}, MI lt la lb qo (la.drop ia) (lb.drop ib) → ia < la.length → ib + c ≤ lb.length → (∀ i, i < c → lt (lb.getD (ib + i) 0) (la.getD ia 0) = true) → MI lt la lb (qo ++ (lb.take (ib + c)).drop ib) (la.drop ia) (lb.drop (ib + c))
  cutA : ∀ ia ib, ia + 1 < la.length → ib < lb.length → ∃ c, c < la.length - ia ∧ (∀ i, i < c → lt (lb.getD ib 0) (la.getD (ia + i) 0) = false) ∧ ∀ i, c ≤ i → i < la.length - ia → lt (lb.getD ib 0) (la.getD (ia + i) 0) = true
  cutB : ∀ ia ib, ia < la.length → ib ≤ lb.length → ∃ c, c ≤ lb.length - ib ∧ (∀ i, i < c → lt (lb.getD (ib + i) 0) (la.getD ia 0) = true) ∧ ∀ i, c ≤ i → i < lb.length - ib → lt (lb.getD (ib + i) 0) (la.getD ia 0) = false
  hz : ∀ y ∈ lb, Bf lt y (la.getD (la.length - 1) 0)
theorem loH_of {lt : Nat → Nat → Bool} {N : Nat} {la lb : List Nat} (O : SOrd lt) (hla : ∀ x ∈ la, x < N) (hlb : ∀ x ∈ lb, x < N) (sa : la.Pairwise (Bf lt)) (sb : lb.Pairwise (Bf lt)) (ix : ∀ x ∈ la, ∀ y ∈ lb, x < y) (hz : ∀ y ∈ lb, Bf lt y (la.getD (la.length - 1) 0)) : LoH lt N la lb := by
  have ga : ∀ i, i < la.length → la.getD i 0 < N := fun i hi => by rw [List.getD_eq_getElem?_getD, List.getElem?_eq_getElem hi]; exact hla _ (List.getElem_mem _)
  have gb : ∀ i, i < lb.length → lb.getD i 0 < N := fun i hi => by rw [List.getD_eq_getElem?_getD, List.getElem?_eq_getElem hi]; exact hlb _ (List.getElem_mem _)
  have one : ∀ ia, ia + 1 = la.length → la.drop ia = [la.getD (la.length - 1) 0] := fun ia h => by
    rw [drop_head (by lia), List.drop_eq_nil_of_le (by lia)]
    congr 2; lia
  -- one of b, one of a
  have stepB : ∀ {qo ia ib}, MI lt la lb qo (la.drop ia) (lb.drop ib) → ia < la.length → ib < lb.length → lt (lb.getD ib 0) (la.getD ia 0) = true → MI lt la lb (qo ++ [lb.getD ib 0]) (la.drop ia) (lb.drop (ib + 1)) := fun {qo ia ib} h h1 h2 h3 => by
    rw [drop_head h2] at h
    refine MI.tb (ys := [lb.getD ib 0]) h fun y hy x hx => ?_
    rw [List.mem_singleton.mp hy]
    have s1 := (List.pairwise_append.mp h.sa).2.1
    rw [drop_head h1] at s1 hx
    exact Pairwise.head_all O s1 (.inl h3) x hx
  have stepA : ∀ {qo ia ib}, MI lt la lb qo (la.drop ia) (lb.drop ib) → ia < la.length → ib < lb.length → lt (lb.getD ib 0) (la.getD ia 0) = false → MI lt la lb (qo ++ [la.getD ia 0]) (la.drop (ia + 1)) (lb.drop ib) := fun {qo ia ib} h h1 h2 h3 => by
    have l := h.ix (la.getD ia 0) (by rw [drop_head h1]; exact .head _) (lb.getD ib 0) (by rw [drop_head h2]; exact .head _)
    rw [drop_head h1] at h
    refine MI.ta (xs := [la.getD ia 0]) h fun x hx y hy => ?_
    rw [List.mem_singleton.mp hx]
    have s1 := (List.pairwise_append.mp h.sb).2.1
    rw [drop_head h2] at s1 hy
    exact Pairwise.head_all O s1 (Bf.of_not O h3 l) y hy
  have memA : ∀ i, i < la.length → la.getD i 0 ∈ la := fun i hi => by rw [List.getD_eq_getElem?_getD, List.getElem?_eq_getElem hi]; exact List.getElem_mem _
  have memB : ∀ i, i < lb.length → lb.getD i 0 ∈ lb := fun i hi => by rw [List.getD_eq_getElem?_getD, List.getElem?_eq_getElem hi]; exact List.getElem_mem _
  have pwA : ∀ i j, i < j → j < la.length → Bf lt (la.getD i 0) (la.getD j 0) := fun i j hij hj => by
    have := List.pairwise_iff_getElem.mp sa i j (by lia) hj hij
    simpa [show i < la.length by lia, hj] using this
  have pwB : ∀ i j, i < j → j < lb.length → Bf lt (lb.getD i 0) (lb.getD j 0) := fun i j hij hj => by
    have := List.pairwise_iff_getElem.mp sb i j (by lia) hj hij
    simpa [show i < lb.length by lia, hj] using this
  have blockA : ∀ {qo ia ib c}, MI lt la lb qo (la.drop ia) (lb.drop ib) → ia + c ≤ la.length → ib < lb.length → (∀ i, i < c → lt (lb.getD ib 0) (la.getD (ia + i) 0) = false) → MI lt la lb (qo ++ (la.take (ia + c)).drop ia) (la.drop (ia + c)) (lb.drop ib) := fun {qo ia ib c} h h1 h2 h3 => by
    rw [drop_split la ia c h1] at h
    refine MI.ta h fun x hx y hy => ?_
    obtain ⟨j, hj, hj2, rfl⟩ := mem_split hx
    have s1 := (List.pairwise_append.mp h.sb).2.1
    rw [drop_head h2] at s1 hy
    exact Pairwise.head_all O s1 (Bf.of_not O (h3 j hj) (ix _ (memA _ hj2) _ (memB _ h2))) y hy
  have blockB : ∀ {qo ia ib c}, MI lt la lb qo (la.drop ia) (lb.drop ib) → ia < la.length → ib + c ≤ lb.length → (∀ i, i < c → lt (lb.getD (ib + i) 0) (la.getD ia 0) = true) → MI lt la lb (qo ++ (lb.take (ib + c)).drop ib) (la.drop ia) (lb.drop (ib + c)) := fun {qo ia ib c} h h1 h2 h3 => by
    rw [drop_split lb ib c h2] at h
    refine MI.tb h fun y hy x hx => ?_
    obtain ⟨j, hj, hj2, rfl⟩ := mem_split hy
    have s1 := (List.pairwise_append.mp h.sa).2.1
    rw [drop_head h1] at s1 hx
    exact Pairwise.head_all O s1 (.inl (h3 j hj)) x hx
  have cutA : ∀ ia ib, ia + 1 < la.length → ib < lb.length → ∃ c, c < la.length - ia ∧ (∀ i, i < c → lt (lb.getD ib 0) (la.getD (ia + i) 0) = false) ∧ ∀ i, c ≤ i → i < la.length - ia → lt (lb.getD ib 0) (la.getD (ia + i) 0) = true := fun ia ib h1 h2 => by
    obtain ⟨c, hc, c1, c2⟩ := mono_cut (f := fun i => !lt (lb.getD ib 0) (la.getD (ia + i) 0)) (la.length - ia) fun i j hij hj hf => by
      rcases Nat.lt_or_eq_of_le hij with hij | rfl
      · cases q : lt (lb.getD ib 0) (la.getD (ia + i) 0) with
        | false => rfl
        | true => rw [O.lt_ge q (Bf.ge O (pwA (ia + i) (ia + j) (by lia) (by lia)))] at hf; cases hf
      · exact hf
    have l1 : lt (lb.getD ib 0) (la.getD (la.length - 1) 0) = true := by
      rcases hz _ (memB ib h2) with z | ⟨_, z⟩
      · exact z
      · have := ix _ (memA (la.length - 1) (by lia)) _ (memB ib h2); lia
    refine ⟨c, ?_, fun i hi => by have := c1 i hi; simpa using this, fun i a b => by have := c2 i a b; simpa using this⟩
    rcases Nat.lt_or_eq_of_le hc with hc | rfl
    · exact hc
    · have := c1 (la.length - ia - 1) (by lia)
      rw [show ia + (la.length - ia - 1) = la.length - 1 by lia, l1] at this
      cases this
  have cutB : ∀ ia ib, ia < la.length → ib ≤ lb.length → ∃ c, c ≤ lb.length - ib ∧ (∀ i, i < c → lt (lb.getD (ib + i) 0) (la.getD ia 0) = true) ∧ ∀ i, c ≤ i → i < lb.length - ib → lt (lb.getD (ib + i) 0) (la.getD ia 0) = false := fun ia ib h1 h2 =>
    mono_cut (f := fun i => lt (lb.getD (ib + i) 0) (la.getD ia 0)) (lb.length - ib) fun i j hij hj hf => by
      rcases Nat.lt_or_eq_of_le hij with hij | rfl
      · exact O.ge_lt (Bf.ge O (pwB (ib + i) (ib + j) (by lia) (by lia))) hf
      · exact hf
  exact ⟨ga, gb, one, stepB, stepA, blockA, blockB, cutA, cutB, hz⟩
/- a turn goes on from here -/
noncomputable def GI (lt : Nat → Nat → Bool) (it : Array Keyed) (la lb : List Nat) (s : LG) (k : Nat) : Prop := ∃ q2 i2 j2 g2 ac bc, s = (none, tI it q2, i2, j2, g2, ac, bc) ∧ MI lt la lb q2 (la.drop i2) (lb.drop j2) ∧ i2 + 1 < la.length ∧ j2 < lb.length ∧ k ≤ i2 + j2
noncomputable def GO (lt : Nat → Nat → Bool) (it : Array Keyed) (la lb : List Nat) (st0 : SortSt) (k : Nat) (r : ForInStep LG) (st' : SortSt) : Prop := SG st0 st' ∧ match r with
  | .done s => (∃ x rest, s = (some x, rest) ∧ PR lt it la lb x) ∨ GI lt it la lb s k
  | .yield s => GI lt it la lb s (k + 1)
section
variable {prog : Program} {w : World} {A : Around} {E : Value → Shared → Prop} {I : Shared → Prop} {κ : SortKind} {it : Array Keyed} {lt : Nat → Nat → Bool} {N : Nat} {la lb : List Nat} {st0 st : SortSt} {q : List Nat} {ia ib mg ac bc k : Nat}
theorem loE_ok (h : LoH lt N la lb) (sg : SG st0 st) (m : MI lt la lb q (la.drop ia) (lb.drop ib)) (h1 : ia + 1 < la.length) (h2 : ib < lb.length) (hl : lt (lb.getD ib 0) (la.getD ia 0) = false) (hk : k ≤ ia + ib) :
    KP (model prog w) A E I (loE (tI it la) (tI it lb) mg ac bc (tI it q) ia ib) (GO lt it la lb st0 k) st := by
  have zA := tI_size (it := it) la
  have h1' : ia < la.length := Nat.lt_of_succ_lt h1
  refine .bind (KP.elem (l := la) (i := ia) h1' ?_)
  rw [tI_push]
  have mD := h.stepA m h1' h2 hl
  refine KP.ite (fun e => ?_) fun e => ?_
  · have e' : ia + 1 + 1 = (tI it la).size := by simpa using e
    exact .pure ⟨sg, .inl ⟨_, _, rfl, PR.last mD (h.one _ (e'.trans zA)) h.hz⟩⟩
  have e' : ¬ ia + 1 + 1 = (tI it la).size := by simpa using e
  have b3 : ia + 1 + 1 < la.length := Nat.lt_of_le_of_ne h1 (by rw [zA] at e'; exact e')
  exact KP.ite (fun zz1 => .pure ⟨sg, .inr ⟨_, _, _, _, _, _, rfl, mD, b3, h2, by lia⟩⟩) fun zz1 => .pure ⟨sg, _, _, _, _, _, _, rfl, mD, b3, h2, by lia⟩
theorem loC_ok (H : Asks prog w A I κ it lt N) (h : LoH lt N la lb) (hκ : kindOf st = κ) (sg : SG st0 st) (m : MI lt la lb q (la.drop ia) (lb.drop ib)) (h1 : ia + 1 < la.length) (h2 : ib < lb.length) (hl : lt (lb.getD ib 0) (la.getD ia 0) = true) (hk : k ≤ ia + ib) :
    KP (model prog w) A E I (loC (tI it la) (tI it lb) mg ac bc (tI it q) ia ib) (GO lt it la lb st0 k) st := by
  have zA := tI_size (it := it) la
  have zB := tI_size (it := it) lb
  have h1' : ia < la.length := Nat.lt_of_succ_lt h1
  refine .bind (KP.elem (l := lb) (i := ib) h2 ?_)
  rw [tI_push]
  have mB := h.stepB m h1' h2 hl
  refine KP.ite (fun e => ?_) fun e => ?_
  · have e' : ib + 1 = (tI it lb).size := by simpa using e
    exact .pure ⟨sg, .inl ⟨_, _, rfl, PR.done mB (Nat.le_of_eq (e'.trans zB).symm)⟩⟩
  have e' : ¬ ib + 1 = (tI it lb).size := by simpa using e
  rw [zB] at e'
  have h3 : ib + 1 < lb.length := Nat.lt_of_le_of_ne h2 e'
  obtain ⟨c, hc, u1, u2⟩ := h.cutB ia (ib + 1) h1' (Nat.le_of_lt h3)
  rw [zB]
  refine .bind (KP.elem (l := la) (i := ia) h1' (.bind (gallop_t (l := lb) (base := ib + 1) (hint := 0) (c := c) H h.gb (h.ga _ h1') (by lia) (by lia) hκ hc (fun i hi => by rw [if_pos rfl]; exact u1 i hi) (fun i a b => by rw [if_pos rfl]; exact u2 i a b) ?_)))
  refine KP.ite (fun hc0 => ?_) fun hc0 => ?_
  · have mC := h.blockB mB (c := c) h1' (by lia) u1
    rw [show tI it (q ++ [lb.getD ib 0]) ++ (tI it lb).extract (ib + 1) (ib + 1 + c) = tI it (q ++ [lb.getD ib 0] ++ (lb.take (ib + 1 + c)).drop (ib + 1)) by rw [tI_ext, tI_app]]
    refine KP.ite (fun e => ?_) fun e => ?_
    · have e' : ib + 1 + c = (tI it lb).size := by simpa using e
      exact .pure ⟨sg, .inl ⟨_, _, rfl, PR.done mC (Nat.le_of_eq (e'.trans zB).symm)⟩⟩
    · have e' : ¬ ib + 1 + c = (tI it lb).size := by simpa using e
      rw [zB] at e'
      exact loE_ok h sg mC h1 (by lia) (u2 c (Nat.le_refl _) (by lia)) (by lia)
  · exact loE_ok h sg mB h1 h3 (u2 0 (by lia) (by lia)) (by lia)
theorem loB_ok (H : Asks prog w A I κ it lt N) (h : LoH lt N la lb) (hκ : kindOf st = κ) (sg : SG st0 st) (m : MI lt la lb q (la.drop ia) (lb.drop ib)) (h1 : ia + 1 < la.length) (h2 : ib < lb.length) (hk : k ≤ ia + ib) :
    KP (model prog w) A E I (loB (tI it la) (tI it lb) mg ac bc (tI it q) ia ib) (GO lt it la lb st0 k) st := by
  have zA := tI_size (it := it) la
  have h1' : ia < la.length := Nat.lt_of_succ_lt h1
  obtain ⟨c, hc, k1, k2⟩ := h.cutA ia ib h1 h2
  unfold loB
  rw [zA]
  refine .bind (KP.setGallop fun st4 sg4 => ?_)
  have sg5 := sg.trans sg4
  have hκ5 := sg4.k.trans hκ
  have lc : lt (lb.getD ib 0) (la.getD (ia + c) 0) = true := k2 c (Nat.le_refl _) hc
  refine .bind (KP.elem (l := lb) (i := ib) h2 (.bind (gallop_t (l := la) (base := ia) (hint := 0) (c := c) H h.ga (h.gb _ h2) (by lia) (by lia) hκ5 (Nat.le_of_lt hc) (fun i hi => by rw [if_neg (by simp), k1 i hi]; rfl) (fun i a b => by rw [if_neg (by simp), k2 i a b]; rfl) ?_)))
  refine KP.ite (fun hc0 => ?_) fun hc0 => ?_
  · have mA := h.blockA m (c := c) (by lia) h2 k1
    rw [show tI it q ++ (tI it la).extract ia (ia + c) = tI it (q ++ (la.take (ia + c)).drop ia) by rw [tI_ext, tI_app]]
    refine KP.ite (fun e => ?_) fun e => KP.ite (fun e3 => ?_) fun zz1 => ?_
    · have e' : ia + c + 1 = (tI it la).size := by simpa using e
      exact .pure ⟨sg5, .inl ⟨_, _, rfl, PR.last mA (h.one _ (e'.trans zA)) h.hz⟩⟩
    · have e' : ia + c = (tI it la).size := by simpa using e3
      lia
    · have e' : ¬ ia + c + 1 = (tI it la).size := by simpa using e
      rw [zA] at e'
      exact loC_ok H h hκ5 sg5 mA (by lia) h2 lc (by lia)
  · have : c = 0 := by lia
    subst this
    exact loC_ok H h hκ5 sg5 m h1 h2 lc hk
/- the first, plain part of a turn -/
noncomputable def II (lt : Nat → Nat → Bool) (it : Array Keyed) (la lb : List Nat) (s : LI) (R : Nat → Prop) : Prop := ∃ q1 i1 j1 ac bc, s = (none, tI it q1, i1, j1, ac, bc) ∧ MI lt la lb q1 (la.drop i1) (lb.drop j1) ∧ i1 + 1 < la.length ∧ j1 < lb.length ∧ R (i1 + j1)
theorem loI_ok (H : Asks prog w A I κ it lt N) (h : LoH lt N la lb) (hκ : kindOf st = κ) (sg : SG st0 st) (m : MI lt la lb q (la.drop ia) (lb.drop ib)) (h1 : ia + 1 < la.length) (h2 : ib < lb.length) (x : Nat) :
    KP (model prog w) A E I (loI (tI it la) (tI it lb) mg x (none, tI it q, ia, ib, ac, bc)) (fun r st' => SG st0 st' ∧ match r with
      | .done s => (∃ x rest, s = (some x, rest) ∧ PR lt it la lb x) ∨ II lt it la lb s (· = ia + ib + 1)
      | .yield s => II lt it la lb s (· = ia + ib + 1)) st := by
  have zA := tI_size (it := it) la
  have zB := tI_size (it := it) lb
  have h1' : ia < la.length := Nat.lt_of_succ_lt h1
  refine .bind (KP.elem (l := lb) (i := ib) h2 (.bind (KP.elem (l := la) (i := ia) h1' (.bind (KP.ask H (h.gb _ h2) (h.ga _ h1') hκ ?_)))))
  refine KP.ite (c := lt (lb.getD ib 0) (la.getD ia 0) = true) (fun c => ?_) fun c => ?_
  · refine .bind (KP.elem (l := lb) (i := ib) h2 ?_)
    dsimp only
    rw [tI_push]
    have m2 := h.stepB m h1' h2 c
    refine KP.ite (fun e => ?_) fun e => ?_
    · have e' : ib + 1 = (tI it lb).size := by simpa using e
      exact .pure ⟨sg, .inl ⟨_, _, rfl, PR.done m2 (Nat.le_of_eq (e'.trans zB).symm)⟩⟩
    · have e' : ¬ ib + 1 = (tI it lb).size := by simpa using e
      rw [zB] at e'
      have b3 : ib + 1 < lb.length := Nat.lt_of_le_of_ne h2 e'
      exact KP.ite (fun zz1 => .pure ⟨sg, .inr ⟨_, _, _, _, _, rfl, m2, h1, b3, rfl⟩⟩) fun zz1 => .pure ⟨sg, _, _, _, _, _, rfl, m2, h1, b3, rfl⟩
  · have c : lt (lb.getD ib 0) (la.getD ia 0) = false := by simpa using c
    refine .bind (KP.elem (l := la) (i := ia) h1' ?_)
    dsimp only
    rw [tI_push]
    have m2 := h.stepA m h1' h2 c
    have es : ia + 1 + ib = ia + ib + 1 := Nat.add_right_comm _ _ _
    refine KP.ite (fun e => ?_) fun e => ?_
    · have e' : ia + 1 + 1 = (tI it la).size := by simpa using e
      exact .pure ⟨sg, .inl ⟨_, _, rfl, PR.last m2 (h.one _ (e'.trans zA)) h.hz⟩⟩
    · have e' : ¬ ia + 1 + 1 = (tI it la).size := by simpa using e
      rw [zA] at e'
      have b3 : ia + 1 + 1 < la.length := Nat.lt_of_le_of_ne h1 e'
      exact KP.ite (fun zz1 => .pure ⟨sg, .inr ⟨_, _, _, _, _, rfl, m2, b3, h2, es⟩⟩) fun zz1 => .pure ⟨sg, _, _, _, _, _, rfl, m2, b3, h2, es⟩
theorem II.mono {s : LI} {R R' : Nat → Prop} (h : II lt it la lb s R) (k : ∀ x, R x → R' x) : II lt it la lb s R' := h.imp fun zz1 h => h.imp fun zz1 h => h.imp fun zz1 h => h.imp fun zz1 h => h.imp fun zz1 h => h.imp_right fun h => h.imp_right fun h => h.imp_right fun h => h.imp_right (k _)
theorem GI.mono {s : LG} {k k' : Nat} (h : GI lt it la lb s k') (hk : k ≤ k') : GI lt it la lb s k := h.imp fun zz1 h => h.imp fun zz1 h => h.imp fun zz1 h => h.imp fun zz1 h => h.imp fun zz1 h => h.imp fun zz1 h => h.imp_right fun h => h.imp_right fun h => h.imp_right fun h => h.imp_right (Nat.le_trans hk)
/- the state of the outer loop -/
noncomputable def OI (lt : Nat → Nat → Bool) (it : Array Keyed) (la lb : List Nat) (s : LO) (k : Nat) : Prop := ∃ qo ia ib g, s = (none, tI it qo, ia, ib, g) ∧ MI lt la lb qo (la.drop ia) (lb.drop ib) ∧ ia + 1 < la.length ∧ ib < lb.length ∧ k ≤ ia + ib
theorem loO_ok (H : Asks prog w A I κ it lt N) (h : LoH lt N la lb) (hκ : kindOf st = κ) (sg : SG st0 st) (m : MI lt la lb q (la.drop ia) (lb.drop ib)) (h1 : ia + 1 < la.length) (h2 : ib < lb.length) (hk : k ≤ ia + ib) (x : Nat) :
    KP (model prog w) A E I (loO (tI it la) (tI it lb) (la.length + lb.length) x (none, tI it q, ia, ib, mg)) (fun r st' => SG st0 st' ∧ match r with
      | .done s => ∃ x rest, s = (some x, rest) ∧ PR lt it la lb x
      | .yield s => OI lt it la lb s (k + 1)) st := by
  refine .bind (KP.range (P := fun r st2 => SG st0 st2 ∧ ((∃ x rest, r = (some x, rest) ∧ PR lt it la lb x) ∨ II lt it la lb r (ia + ib < ·))) (fun n r st2 => SG st0 st2 ∧ II lt it la lb r (ia + ib + n = ·))
    ⟨sg, q, ia, ib, 0, 0, rfl, m, h1, h2, rfl⟩ (fun x n r st2 hn hJ => ?_) (fun r st2 hJ => ?_) |>.mono fun r st2 hJ => ?_)
  · obtain ⟨sg2, q1, i1, j1, ac, bc, rfl, m1, b1, b2, hm1⟩ := hJ
    have hκ2 : kindOf st2 = κ := sg2.k.trans (sg.k.symm.trans hκ)
    refine (loI_ok H h hκ2 sg2 m1 b1 b2 x).mono fun r st' hr => ?_
    obtain ⟨sg3, hr⟩ := hr
    cases r with
    | done s => exact ⟨sg3, hr.imp_right fun z => z.mono fun x (l : x = i1 + j1 + 1) => show ia + ib < x by lia⟩
    | yield s => exact ⟨sg3, hr.mono fun x (l : x = i1 + j1 + 1) => show ia + ib + (n + 1) = x by lia⟩
  · obtain ⟨sg2, q1, i1, j1, ac, bc, rfl, m1, b1, b2, hm1⟩ := hJ
    have hm1 : ia + ib + (la.length + lb.length - 0) = i1 + j1 := hm1
    lia
  obtain ⟨sg2, ⟨x, rest, rfl, pr⟩ | ⟨q1, i1, j1, ac, bc, rfl, m1, b1, b2, hm1⟩⟩ := hJ
  · exact .pure ⟨sg2, x, _, rfl, pr⟩
  have hm1 : ia + ib < i1 + j1 := hm1
  have hκ2 : kindOf st2 = κ := sg2.k.trans (sg.k.symm.trans hκ)
  refine .bind (KP.rule (.bind ?_))
  refine (KP.range (P := fun r st3 => SG st0 st3 ∧ ((∃ x rest, r = (some x, rest) ∧ PR lt it la lb x) ∨ GI lt it la lb r (i1 + j1))) (fun n r st3 => SG st0 st3 ∧ GI lt it la lb r (i1 + j1 + n))
    ⟨sg2, q1, i1, j1, _, ac, bc, rfl, m1, b1, b2, Nat.le_refl _⟩ (fun x n r st3 hn hJ => ?_) (fun r st3 hJ => ?_)).mono fun r st3 hJ => ?_
  · obtain ⟨sg3, q2, i2, j2, g2, ac, bc, rfl, m2, c1, c2, hm2⟩ := hJ
    have hκ3 : kindOf st3 = κ := sg3.k.trans (sg.k.symm.trans hκ)
    have turn : ∀ mg', KP (model prog w) A E I (loB (tI it la) (tI it lb) mg' ac bc (tI it q2) i2 j2) (GO lt it la lb st0 (i1 + j1 + n)) st3 := fun mg' => loB_ok H h hκ3 sg3 m2 c1 c2 hm2
    refine KP.mono (KP.ite (fun zz1 => turn _) fun zz1 => turn _) fun r st' hr => ?_
    obtain ⟨sg4, hr⟩ := hr
    cases r with
    | done s => exact ⟨sg4, hr.imp_right fun z => z.mono (Nat.le_add_right _ _)⟩
    | yield s => exact ⟨sg4, hr⟩
  · obtain ⟨sg3, q2, i2, j2, g2, ac, bc, rfl, m2, c1, c2, hm2⟩ := hJ
    lia
  obtain ⟨sg3, ⟨x, rest, rfl, pr⟩ | ⟨q2, i2, j2, g2, ac, bc, rfl, m2, c1, c2, hm2⟩⟩ := hJ
  · exact .pure ⟨sg3, x, _, rfl, pr⟩
  refine .bind (KP.setGallop fun st4 sg4 => ?_)
  exact .pure ⟨sg3.trans sg4, q2, i2, j2, _, rfl, m2, c1, c2, by lia⟩
theorem mergeLo_ok {P : Array Keyed → SortSt → Prop} (O : SOrd lt) (H : Asks prog w A I κ it lt N) (hla : ∀ x ∈ la, x < N) (hlb : ∀ x ∈ lb, x < N) (hκ : kindOf st = κ) (sa : la.Pairwise (Bf lt)) (sb : lb.Pairwise (Bf lt)) (ix : ∀ x ∈ la, ∀ y ∈ lb, x < y)
    (na : 0 < la.length) (nb : 0 < lb.length) (h0 : lt (lb.getD 0 0) (la.getD 0 0) = true) (hz : ∀ y ∈ lb, Bf lt y (la.getD (la.length - 1) 0)) (q : ∀ r st', PR lt it la lb r → SG st st' → P r st') : KP (model prog w) A E I (mergeLoP (tI it la) (tI it lb)) P st := by
  have h := loH_of (N := N) O hla hlb sa sb ix hz
  have zA := tI_size (it := it) la
  have zB := tI_size (it := it) lb
  have mi0 : MI lt la lb [] (la.drop 0) (lb.drop 0) := ⟨.refl _, sa, sb, ix⟩
  have mi1 := h.stepB mi0 na nb h0
  refine loM_of (.bind (KP.rule (.bind (KP.elem (l := lb) (i := 0) nb ?_))))
  rw [show (#[kas_item it (lb.getD 0 0)] : Array Keyed) = tI it [lb.getD 0 0] from (by unfold tI; simp)]
  refine KP.ite (fun e => ?_) fun e1 => ?_
  · have e' : 1 = (tI it lb).size := by simpa using e
    exact .pure (q _ _ (PR.done mi1 (Nat.le_of_eq (e'.trans zB).symm)) (.refl _))
  have e1' : ¬ 1 = (tI it lb).size := by simpa using e1
  refine KP.ite (fun e => ?_) fun e2 => ?_
  · have e' : 0 + 1 = (tI it la).size := by simpa using e
    exact .pure (q _ _ (PR.last mi1 (h.one 0 (e'.trans zA)) hz) (.refl _))
  have e2' : ¬ 0 + 1 = (tI it la).size := by simpa using e2
  rw [zA] at e2'
  rw [zB] at e1'
  refine .bind (KP.get (.bind ?_))
  rw [zA, zB]
  refine (KP.range (P := fun r st' => SG st st' ∧ ∃ x rest, r = (some x, rest) ∧ PR lt it la lb x) (fun i r st' => SG st st' ∧ OI lt it la lb r (i + 1)) ⟨.refl _, _, 0, 1, _, rfl, mi1, by lia, by lia, Nat.le_refl _⟩ (fun x i r st' hi hJ => ?_) (fun r st' hJ => ?_)).mono fun r st' hJ => ?_
  · obtain ⟨sg, qo, ia, ib, g, rfl, mi, la1, lb1, hm⟩ := hJ
    refine (loO_ok H h (sg.k.trans hκ) sg mi la1 lb1 hm x).mono fun r st2 hr => ?_
    cases r <;> exact hr
  · obtain ⟨sg, qo, ia, ib, g, rfl, mi, la1, lb1, hm⟩ := hJ
    lia
  · obtain ⟨sg, x, rest, rfl, pr⟩ := hJ
    exact .pure (q x st' pr sg)
end
end Mine


set_option maxHeartbeats 2000000

namespace Mine
open PySem PyProof.Rows
noncomputable abbrev mergeHiP : Array Keyed → Array Keyed → StateT SortSt Sem (Array Keyed) := sortPriv% PySem.Builtin.mergeHi
noncomputable abbrev HG := Option KA × Nat × Nat × KA × Nat × Nat × Nat
noncomputable abbrev HI := Option KA × Nat × Nat × KA × Nat × Nat
noncomputable abbrev HO := Option KA × Nat × Nat × KA × Nat
noncomputable def hiDone (a b out : KA) (na nb : Nat) : KA := a.extract 0 na ++ b.extract 0 nb ++ out.reverse
noncomputable def hiFirst (a b out : KA) (na nb : Nat) : KA := b.extract 0 nb ++ a.extract 0 na ++ out.reverse
noncomputable def hiE (a b : KA) (mg ac bc : Nat) (na nb : Nat) (out : KA) : StateT SortSt Sem (ForInStep HG) := do
  let x ← elem' a (na - 1)
  if (na - 1 == 0) = true then pure (.done (some (hiDone a b (out.push x) (na - 1) nb), na - 1, nb, out.push x, mg, ac, bc))
  else if (decide (ac < 7) && decide (bc < 7)) = true then pure (.done (none, na - 1, nb, out.push x, mg, ac, bc))
  else pure (.yield (none, na - 1, nb, out.push x, mg, ac, bc))
noncomputable def hiD (a b : KA) (mg ac bc : Nat) (na nb : Nat) (out : KA) (k : Option Nat) : StateT SortSt Sem (ForInStep HG) :=
  match k with
  | some k =>
    if nb - k > 0 then
      if (k == 1) = true then pure (.done (some (hiFirst a b (out ++ (b.extract k nb).reverse) na k), na, k, out ++ (b.extract k nb).reverse, mg, ac, nb - k))
      else if (k == 0) = true then pure (.done (some (hiDone a b (out ++ (b.extract k nb).reverse) na k), na, k, out ++ (b.extract k nb).reverse, mg, ac, nb - k))
      else hiE a b mg ac (nb - k) na k (out ++ (b.extract k nb).reverse)
    else hiE a b mg ac (nb - k) na nb out
  | none => pure (.done (some (hiDone a b out na nb), na, nb, out, mg, ac, bc))
noncomputable def hiC (a b : KA) (mg ac bc : Nat) (na nb : Nat) (out : KA) : StateT SortSt Sem (ForInStep HG) := do
  let x ← elem' b (nb - 1)
  if (nb - 1 == 1) = true then pure (.done (some (hiFirst a b (out.push x) na (nb - 1)), na, nb - 1, out.push x, mg, ac, bc))
  else do
    let y ← elem' a (na - 1)
    let k ← gallopP true y b 0 (nb - 1) (nb - 1 - 1)
    hiD a b mg ac bc na (nb - 1) (out.push x) k
noncomputable def hiB2 (a b : KA) (mg ac bc : Nat) (na nb : Nat) (out : KA) (k : Option Nat) : StateT SortSt Sem (ForInStep HG) :=
  match k with
  | some k =>
    if na - k > 0 then
      if (k == 0) = true then pure (.done (some (hiDone a b (out ++ (a.extract k na).reverse) k nb), k, nb, out ++ (a.extract k na).reverse, mg, na - k, bc))
      else hiC a b mg (na - k) bc k nb (out ++ (a.extract k na).reverse)
    else hiC a b mg (na - k) bc na nb out
  | none => pure (.done (some (hiDone a b out na nb), na, nb, out, mg, ac, bc))
noncomputable def hiB (a b : KA) (mg ac bc : Nat) (na nb : Nat) (out : KA) : StateT SortSt Sem (ForInStep HG) := do
  setGallopP mg
  let y ← elem' b (nb - 1)
  let k ← gallopP false y a 0 na (na - 1)
  hiB2 a b mg ac bc na nb out k
noncomputable def hiG (a b : KA) (_ : Nat) (s : HG) : StateT SortSt Sem (ForInStep HG) :=
  if s.2.2.2.2.1 > 1 then hiB a b (s.2.2.2.2.1 - 1) s.2.2.2.2.2.1 s.2.2.2.2.2.2 s.2.1 s.2.2.1 s.2.2.2.1 else hiB a b s.2.2.2.2.1 s.2.2.2.2.2.1 s.2.2.2.2.2.2 s.2.1 s.2.2.1 s.2.2.2.1
noncomputable def hiI2 (a b : KA) (mg : Nat) (s : HI) (r : Option Bool) : StateT SortSt Sem (ForInStep HI) :=
  match r with
  | some aw =>
    if aw = true then do
      let x ← elem' a (s.2.1 - 1)
      if (s.2.1 - 1 == 0) = true then pure (.done (some (hiDone a b (s.2.2.2.1.push x) (s.2.1 - 1) s.2.2.1), s.2.1 - 1, s.2.2.1, s.2.2.2.1.push x, s.2.2.2.2.1 + 1, 0))
      else if s.2.2.2.2.1 + 1 ≥ mg then pure (.done (none, s.2.1 - 1, s.2.2.1, s.2.2.2.1.push x, s.2.2.2.2.1 + 1, 0))
      else pure (.yield (none, s.2.1 - 1, s.2.2.1, s.2.2.2.1.push x, s.2.2.2.2.1 + 1, 0))
    else do
      let x ← elem' b (s.2.2.1 - 1)
      if (s.2.2.1 - 1 == 1) = true then pure (.done (some (hiFirst a b (s.2.2.2.1.push x) s.2.1 (s.2.2.1 - 1)), s.2.1, s.2.2.1 - 1, s.2.2.2.1.push x, 0, s.2.2.2.2.2 + 1))
      else if s.2.2.2.2.2 + 1 ≥ mg then pure (.done (none, s.2.1, s.2.2.1 - 1, s.2.2.2.1.push x, 0, s.2.2.2.2.2 + 1))
      else pure (.yield (none, s.2.1, s.2.2.1 - 1, s.2.2.2.1.push x, 0, s.2.2.2.2.2 + 1))
  | none => pure (.done (some (hiDone a b s.2.2.2.1 s.2.1 s.2.2.1), s.2.1, s.2.2.1, s.2.2.2.1, s.2.2.2.2.1, s.2.2.2.2.2))
noncomputable def hiI (a b : KA) (mg : Nat) (_ : Nat) (s : HI) : StateT SortSt Sem (ForInStep HI) := do
  let y ← elem' b (s.2.2.1 - 1)
  let x ← elem' a (s.2.1 - 1)
  let r ← lt' y x
  hiI2 a b mg s r
noncomputable def hiO3 (s : HG) : StateT SortSt Sem (ForInStep HO) :=
  match s.1 with
  | some r => pure (.done (some r, s.2.1, s.2.2.1, s.2.2.2.1, s.2.2.2.2.1))
  | none => do
    setGallopP (s.2.2.2.2.1 + 1)
    pure (.yield (none, s.2.1, s.2.2.1, s.2.2.2.1, s.2.2.2.2.1 + 1))
noncomputable def hiO2 (a b : KA) (total mg : Nat) (s : HI) : StateT SortSt Sem (ForInStep HO) :=
  match s.1 with
  | some r => pure (.done (some r, s.2.1, s.2.2.1, s.2.2.2.1, mg))
  | none => do
    liftM (rule "list.sort.gallop")
    let r ← forIn [:total] ((none, s.2.1, s.2.2.1, s.2.2.2.1, mg + 1, s.2.2.2.2.1, s.2.2.2.2.2) : HG) (hiG a b)
    hiO3 r
noncomputable def hiO (a b : KA) (total : Nat) (_ : Nat) (s : HO) : StateT SortSt Sem (ForInStep HO) := do
  let r ← forIn [:total] ((none, s.2.1, s.2.2.1, s.2.2.2.1, 0, 0) : HI) (hiI a b s.2.2.2.2)
  hiO2 a b total s.2.2.2.2 r
noncomputable def hiM2 (s : HO) : StateT SortSt Sem KA :=
  match s.1 with
  | some r => pure r
  | none => unsupported "internal:list.sort.merge-bound"
noncomputable def hiM (a b : KA) : StateT SortSt Sem KA := do
  liftM (rule "list.sort.merge-hi")
  let x ← elem' a (a.size - 1)
  if (a.size - 1 == 0) = true then pure (hiDone a b #[x] (a.size - 1) b.size)
  else if (b.size == 1) = true then pure (hiFirst a b #[x] (a.size - 1) b.size)
  else do
    let st ← get
    let r ← forIn [:a.size + b.size] ((none, a.size - 1, b.size, #[x], gallopOf st) : HO) (hiO a b (a.size + b.size))
    hiM2 r
theorem hiM_of {prog : Program} {w : World} {A : Around} {E : Value → Shared → Prop} {I : Shared → Prop} {a b : KA} {st : SortSt} {P : KA → SortSt → Prop} (h : KP (model prog w) A E I (hiM a b) P st) : KP (model prog w) A E I (mergeHiP a b) P st := fun s hs => by
  unfold kasC
  wp_delta
  wp_delta
  wp_delta
  refine KP.of ?_ s hs
  refine KP.eq ?_ h
  clear h
  refine bind_eq rfl fun zz1 => bind_eq rfl fun x => ite_eq rfl (ite_eq rfl (bind_eq rfl fun st => bind_eq (forIn_eq fun zz1 s => ?_) fun r => ?_))
  · refine bind_eq (forIn_eq fun zz1 s2 => bind_eq rfl fun q1 => bind_eq rfl fun q2 => bind_eq rfl fun r => ?_) fun r => ?_
    · cases r with
      | none => rfl
      | some b => rfl
    · obtain ⟨r1, r2⟩ := r
      cases r1 with
      | some r => rfl
      | none =>
        refine bind_eq rfl fun zz1 => bind_eq (forIn_eq fun zz1 s3 => ?_) fun r => ?_
        · extract_lets -underBinder +onlyGivenNames s1 v1 s2 v2 s3 v3 s4 v4 s5 v5 v6 jp
          have hjp : ∀ u mg, jp u mg = hiB a b mg v5 v6 v1 v2 v3 := fun zz1 mg => by
            dsimp (config := {zeta := false, zetaHave := false}) only [jp]
            refine bind_eq rfl fun zz1 => bind_eq rfl fun y => bind_eq rfl fun r => ?_
            cases r with
            | none => rfl
            | some k =>
              dsimp (config := {zeta := false, zetaHave := false}) only
              extract_lets -underBinder +onlyGivenNames k0 k1 jp2
              have hjp2 : ∀ u na out, jp2 u na out = hiC a b mg (v1 - k) v6 na v2 out := fun zz1 na out => by
                dsimp (config := {zeta := false, zetaHave := false}) only [jp2]
                refine bind_eq rfl fun x => ite_eq rfl (bind_eq rfl fun y => bind_eq rfl fun r => ?_)
                cases r with
                | none => rfl
                | some k' =>
                  dsimp (config := {zeta := false, zetaHave := false}) only
                  extract_lets -underBinder +onlyGivenNames k3 k2 jp3
                  have hjp3 : ∀ u nb' out', jp3 u nb' out' = hiE a b mg (v1 - k) (v2 - 1 - k') na nb' out' := fun zz1 nb' out' => rfl
                  clear_value jp3
                  exact ite_eq (ite_eq rfl (ite_eq rfl (hjp3 _ _ _))) (hjp3 _ _ _)
              clear_value jp2
              exact ite_eq (ite_eq rfl (hjp2 _ _ _)) (hjp2 _ _ _)
          clear_value jp
          exact ite_eq (hjp _ _) (hjp _ _)
        · obtain ⟨r1, r2⟩ := r
          cases r1 <;> rfl
  · obtain ⟨r1, r2⟩ := r
    cases r1 <;> rfl
end Mine


set_option maxHeartbeats 4000000

namespace Mine
open PySem PyProof.Rows
structure MJ (lt : Nat → Nat → Bool) (la lb qa qb qo : List Nat) : Prop where
  perm : ((qa ++ qb) ++ qo).Perm (la ++ lb)
  sa : (qa ++ qo).Pairwise (Bf lt)
  sb : (qb ++ qo).Pairwise (Bf lt)
  ix : ∀ x ∈ qa, ∀ y ∈ qb, x < y
section
variable {lt : Nat → Nat → Bool} {la lb qa qb qo : List Nat}
theorem MJ.ta {qa' xs : List Nat} (h : MJ lt la lb (qa' ++ xs) qb qo) (k : ∀ x ∈ xs, ∀ y ∈ qb, Bf lt y x) : MJ lt la lb qa' qb (xs ++ qo) := by
  obtain ⟨p, sa, sb, ix⟩ := h
  have s1 := List.pairwise_append.mp sa
  have s2 := List.pairwise_append.mp s1.1
  have s3 := List.pairwise_append.mp sb
  refine ⟨?_, by rw [← List.append_assoc]; exact sa, ?_, fun x hx y hy => ix x (List.mem_append_left _ hx) y hy⟩
  · refine List.Perm.trans ?_ p
    rw [← List.append_assoc]
    refine List.Perm.append_right _ ?_
    rw [List.append_assoc, List.append_assoc]
    exact List.Perm.append_left _ List.perm_append_comm
  · rw [List.pairwise_append, List.pairwise_append]
    refine ⟨s3.1, ⟨s2.2.1, s1.2.1, fun x hx q hq => s1.2.2 x (List.mem_append_right _ hx) q hq⟩, fun y hy z hz => ?_⟩
    rcases List.mem_append.mp hz with hz | hz
    · exact k z hz y hy
    · exact s3.2.2 y hy z hz
theorem MJ.tb {qb' ys : List Nat} (h : MJ lt la lb qa (qb' ++ ys) qo) (k : ∀ y ∈ ys, ∀ x ∈ qa, Bf lt x y) : MJ lt la lb qa qb' (ys ++ qo) := by
  obtain ⟨p, sa, sb, ix⟩ := h
  have s1 := List.pairwise_append.mp sb
  have s2 := List.pairwise_append.mp s1.1
  have s3 := List.pairwise_append.mp sa
  refine ⟨?_, ?_, by rw [← List.append_assoc]; exact sb, fun x hx y hy => ix x hx y (List.mem_append_left _ hy)⟩
  · refine List.Perm.trans ?_ p
    rw [← List.append_assoc, ← List.append_assoc]
  · rw [List.pairwise_append, List.pairwise_append]
    refine ⟨s3.1, ⟨s2.2.1, s1.2.1, fun x hx q hq => s1.2.2 x (List.mem_append_right _ hx) q hq⟩, fun y hy z hz => ?_⟩
    rcases List.mem_append.mp hz with hz | hz
    · exact k z hz y hy
    · exact s3.2.2 y hy z hz
/- an earlier one comes ahead of the last -/
theorem Pairwise.last_all (O : SOrd lt) {x : Nat} {l : List Nat} (h : (l ++ [x]).Pairwise (Bf lt)) {y : Nat} (hy : Bf lt x y) : ∀ z ∈ l ++ [x], Bf lt z y := fun z hz => by
  rcases List.mem_append.mp hz with hz | hz
  · exact Bf.trans O ((List.pairwise_append.mp h).2.2 z hz x (.head _)) hy
  · rw [List.mem_singleton.mp hz]; exact hy
theorem MJ.done1 (h : MJ lt la lb [] qb qo) : (qb ++ qo).Perm (la ++ lb) ∧ (qb ++ qo).Pairwise (Bf lt) := ⟨by have := h.perm; rwa [List.nil_append] at this, h.sb⟩
theorem MJ.done2 (h : MJ lt la lb qa [] qo) : (qa ++ qo).Perm (la ++ lb) ∧ (qa ++ qo).Pairwise (Bf lt) := ⟨by have := h.perm; rwa [List.append_nil] at this, h.sa⟩
theorem MJ.done3 {z : Nat} (h : MJ lt la lb qa [z] qo) (hz : ∀ x ∈ qa, Bf lt z x) : ([z] ++ qa ++ qo).Perm (la ++ lb) ∧ ([z] ++ qa ++ qo).Pairwise (Bf lt) := by
  refine ⟨(List.Perm.append_right _ List.perm_append_comm).trans h.perm, ?_⟩
  rw [List.append_assoc, List.pairwise_append]
  refine ⟨List.pairwise_singleton _ _, h.sa, fun a ha x hx => ?_⟩
  rw [List.mem_singleton.mp ha]
  rcases List.mem_append.mp hx with hx | hx
  · exact hz x hx
  · exact (List.pairwise_append.mp h.sb).2.2 z (.head _) x hx
end
theorem take_last {l : List Nat} {n : Nat} (h : n < l.length) : l.take (n + 1) = l.take n ++ [l.getD n 0] := by
  rw [List.take_add_one, List.getElem?_eq_getElem h]; simp [h]
theorem take_split (l : List Nat) (i n : Nat) (h : i ≤ n) : l.take n = l.take i ++ (l.take n).drop i := by
  have e : l.take i = (l.take n).take i := by rw [List.take_take, Nat.min_eq_left h]
  rw [e, List.take_append_drop]
section
variable {it : Array Keyed} {lt : Nat → Nat → Bool}
theorem tI_rev (l : List Nat) : (tI it l).reverse = tI it l.reverse := by
  unfold tI; rw [← Array.toList_inj]; simp
theorem tI_to (l : List Nat) (n : Nat) : (tI it l).extract 0 n = tI it (l.take n) := by rw [tI_ext, List.drop_zero]
theorem PR.hiA {la lb qo : List Nat} {na nb : Nat} (h : MJ lt la lb (la.take na) (lb.take nb) qo) (ha : na = 0) : PR lt it la lb ((tI it la).extract 0 na ++ (tI it lb).extract 0 nb ++ (tI it qo.reverse).reverse) := by
  rw [tI_to, tI_to, tI_rev, tI_app, tI_app, List.reverse_reverse]
  subst ha
  rw [List.take_zero] at h ⊢
  exact ⟨_, rfl, by rw [List.nil_append]; exact h.done1.1, by rw [List.nil_append]; exact h.done1.2⟩
theorem PR.hiB {la lb qo : List Nat} {na nb : Nat} (h : MJ lt la lb (la.take na) (lb.take nb) qo) (hb : nb = 0) : PR lt it la lb ((tI it la).extract 0 na ++ (tI it lb).extract 0 nb ++ (tI it qo.reverse).reverse) := by
  rw [tI_to, tI_to, tI_rev, tI_app, tI_app, List.reverse_reverse]
  subst hb
  rw [List.take_zero] at h ⊢
  exact ⟨_, rfl, by rw [List.append_nil]; exact h.done2.1, by rw [List.append_nil]; exact h.done2.2⟩
theorem PR.hiF {la lb qo : List Nat} {na nb z : Nat} (h : MJ lt la lb (la.take na) (lb.take nb) qo) (hb : lb.take nb = [z]) (hz : ∀ x ∈ la, Bf lt z x) : PR lt it la lb ((tI it lb).extract 0 nb ++ (tI it la).extract 0 na ++ (tI it qo.reverse).reverse) := by
  rw [tI_to, tI_to, tI_rev, tI_app, tI_app, List.reverse_reverse]
  rw [hb] at h ⊢
  have := h.done3 fun x hx => hz x (List.mem_of_mem_take hx)
  exact ⟨_, rfl, this.1, this.2⟩
end
section
variable {prog : Program} {w : World} {A : Around} {E : Value → Shared → Prop} {I : Shared → Prop} {κ : SortKind} {it : Array Keyed} {lt : Nat → Nat → Bool} {N : Nat}
theorem tI_pushr (q : List Nat) (x : Nat) : (tI it q.reverse).push (kas_item it x) = tI it (([x] ++ q).reverse) := by
  rw [tI_push, List.reverse_append]; rfl
theorem tI_appr (q : List Nat) (l : List Nat) (i j : Nat) : tI it q.reverse ++ ((tI it l).extract i j).reverse = tI it (((l.take j).drop i ++ q).reverse) := by
  rw [tI_ext, tI_rev, tI_app, List.reverse_append]
end
/- what the merge of two runs from the back rests on -/
structure HiH (lt : Nat → Nat → Bool) (N : Nat) (la lb : List Nat) : Prop where
  ga : ∀ i, i < la.length → la.getD i 0 < N
  gb : ∀ i, i < lb.length → lb.getD i 0 < N
  hf : ∀ x ∈ la, Bf lt (lb.getD 0 0) x
  oneB : ∀ n, n = 1 → lb.take n = [lb.getD 0 0]
  stepA : ∀ {qo n m}, MJ lt la lb (la.take n) (lb.take m) qo → 1 ≤ n → n ≤ la.length → 1 ≤ m → m ≤ lb.length → lt (lb.getD (m - 1) 0) (la.getD (n - 1) 0) = true → MJ lt la lb (la.take (n - 1)) (lb.take m) ([la.getD (n - 1) 0] ++ qo)
  stepB : ∀ {qo n m}, MJ lt la lb (la.take n) (lb.take m) qo → 1 ≤ n → n ≤ la.length → 1 ≤ m → m ≤ lb.length → lt (lb.getD (m - 1) 0) (la.getD (n - 1) 0) = false → MJ lt la lb (la.take n) (lb.take (m - 1)) ([lb.getD (m - 1) 0] ++ qo)
  blockA : ∀ {qo n m c}, MJ lt la lb (la.take n) (lb.take m) qo → c ≤ n → n ≤ la.length → 1 ≤ m → m ≤ lb.length → (∀ i, c ≤ i → i < n → lt (lb.getD (m - 1) 0) (la.getD i 0) = true) → MJ lt la lb (la.take c) (lb.take m) ((la.take n).drop c ++ qo)
  blockB : ∀ {qo n m c}, MJ lt la lb (la.take n) (lb.take m) qo → 1 ≤ n → n ≤ la.length → c ≤ m → m ≤ lb.length → (∀ i, c ≤ i → i < m → lt (lb.getD i 0) (la.getD (n - 1) 0) = false) → MJ lt la lb (la.take n) (lb.take c) ((lb.take m).drop c ++ qo)
  cutA : ∀ n m, n ≤ la.length → m < lb.length → ∃ c, c ≤ n ∧ (∀ i, i < c → lt (lb.getD m 0) (la.getD i 0) = false) ∧ ∀ i, c ≤ i → i < n → lt (lb.getD m 0) (la.getD i 0) = true
  cutB : ∀ n m, n < la.length → m ≤ lb.length → ∃ c, c ≤ m ∧ (∀ i, i < c → lt (lb.getD i 0) (la.getD n 0) = true) ∧ ∀ i, c ≤ i → i < m → lt (lb.getD i 0) (la.getD n 0) = false
theorem hiH_of {lt : Nat → Nat → Bool} {N : Nat} {la lb : List Nat} (O : SOrd lt) (hla : ∀ x ∈ la, x < N) (hlb : ∀ x ∈ lb, x < N) (sa : la.Pairwise (Bf lt)) (sb : lb.Pairwise (Bf lt)) (ix : ∀ x ∈ la, ∀ y ∈ lb, x < y) (na : 0 < la.length) (nb : 0 < lb.length) (h0 : lt (lb.getD 0 0) (la.getD 0 0) = true) : HiH lt N la lb := by
  have ga : ∀ i, i < la.length → la.getD i 0 < N := fun i hi => by rw [List.getD_eq_getElem?_getD, List.getElem?_eq_getElem hi]; exact hla _ (List.getElem_mem _)
  have gb : ∀ i, i < lb.length → lb.getD i 0 < N := fun i hi => by rw [List.getD_eq_getElem?_getD, List.getElem?_eq_getElem hi]; exact hlb _ (List.getElem_mem _)
  have memA : ∀ i, i < la.length → la.getD i 0 ∈ la := fun i hi => by rw [List.getD_eq_getElem?_getD, List.getElem?_eq_getElem hi]; exact List.getElem_mem _
  have memB : ∀ i, i < lb.length → lb.getD i 0 ∈ lb := fun i hi => by rw [List.getD_eq_getElem?_getD, List.getElem?_eq_getElem hi]; exact List.getElem_mem _
  have pwA : ∀ i j, i < j → j < la.length → Bf lt (la.getD i 0) (la.getD j 0) := fun i j hij hj => by
    have := List.pairwise_iff_getElem.mp sa i j (by lia) hj hij
    simpa [show i < la.length by lia, hj] using this
  have pwB : ∀ i j, i < j → j < lb.length → Bf lt (lb.getD i 0) (lb.getD j 0) := fun i j hij hj => by
    have := List.pairwise_iff_getElem.mp sb i j (by lia) hj hij
    simpa [show i < lb.length by lia, hj] using this
  have hf : ∀ x ∈ la, Bf lt (lb.getD 0 0) x := fun x hx => by
    have e : la = la.getD 0 0 :: la.drop 1 := by have := drop_head (l := la) (i := 0) na; rwa [List.drop_zero] at this
    rw [e] at sa hx
    exact Pairwise.head_all O sa (.inl h0) x hx
  have oneB : ∀ n, n = 1 → lb.take n = [lb.getD 0 0] := fun n h => by
    subst h
    have := take_last (l := lb) (n := 0) nb
    rw [List.take_zero, List.nil_append] at this; exact this
  have stepA : ∀ {qo n m}, MJ lt la lb (la.take n) (lb.take m) qo → 1 ≤ n → n ≤ la.length → 1 ≤ m → m ≤ lb.length → lt (lb.getD (m - 1) 0) (la.getD (n - 1) 0) = true → MJ lt la lb (la.take (n - 1)) (lb.take m) ([la.getD (n - 1) 0] ++ qo) := fun {qo n m} h h1 h2 h3 h4 h5 => by
    obtain ⟨n, rfl⟩ : ∃ k, n = k + 1 := ⟨n - 1, by lia⟩
    obtain ⟨m, rfl⟩ : ∃ k, m = k + 1 := ⟨m - 1, by lia⟩
    rw [Nat.add_sub_cancel] at h5 ⊢
    rw [take_last (by lia)] at h
    refine MJ.ta h fun x hx y hy => ?_
    rw [List.mem_singleton.mp hx]
    have s1 := (List.pairwise_append.mp h.sb).1
    rw [take_last (by lia)] at s1 hy
    exact Pairwise.last_all O s1 (.inl h5) y hy
  have stepB : ∀ {qo n m}, MJ lt la lb (la.take n) (lb.take m) qo → 1 ≤ n → n ≤ la.length → 1 ≤ m → m ≤ lb.length → lt (lb.getD (m - 1) 0) (la.getD (n - 1) 0) = false → MJ lt la lb (la.take n) (lb.take (m - 1)) ([lb.getD (m - 1) 0] ++ qo) := fun {qo n m} h h1 h2 h3 h4 h5 => by
    obtain ⟨n, rfl⟩ : ∃ k, n = k + 1 := ⟨n - 1, by lia⟩
    obtain ⟨m, rfl⟩ : ∃ k, m = k + 1 := ⟨m - 1, by lia⟩
    rw [Nat.add_sub_cancel] at h5 ⊢
    have l := ix _ (memA n (by lia)) _ (memB m (by lia))
    rw [take_last (l := lb) (by lia)] at h
    refine MJ.tb h fun y hy x hx => ?_
    rw [List.mem_singleton.mp hy]
    have s1 := (List.pairwise_append.mp h.sa).1
    rw [take_last (by lia)] at s1 hx
    exact Pairwise.last_all O s1 (Bf.of_not O h5 l) x hx
  have blockA : ∀ {qo n m c}, MJ lt la lb (la.take n) (lb.take m) qo → c ≤ n → n ≤ la.length → 1 ≤ m → m ≤ lb.length → (∀ i, c ≤ i → i < n → lt (lb.getD (m - 1) 0) (la.getD i 0) = true) → MJ lt la lb (la.take c) (lb.take m) ((la.take n).drop c ++ qo) := fun {qo n m c} h h1 h2 h3 h4 h5 => by
    obtain ⟨m, rfl⟩ : ∃ k, m = k + 1 := ⟨m - 1, by lia⟩
    rw [Nat.add_sub_cancel] at h5
    rw [take_split la c n h1] at h
    refine MJ.ta h fun x hx y hy => ?_
    obtain ⟨j, hj, hj2, rfl⟩ := mem_split (c := n - c) (by rw [show c + (n - c) = n by lia]; exact hx)
    have s1 := (List.pairwise_append.mp h.sb).1
    rw [take_last (by lia)] at s1 hy
    exact Pairwise.last_all O s1 (.inl (h5 _ (by lia) (by lia))) y hy
  have blockB : ∀ {qo n m c}, MJ lt la lb (la.take n) (lb.take m) qo → 1 ≤ n → n ≤ la.length → c ≤ m → m ≤ lb.length → (∀ i, c ≤ i → i < m → lt (lb.getD i 0) (la.getD (n - 1) 0) = false) → MJ lt la lb (la.take n) (lb.take c) ((lb.take m).drop c ++ qo) := fun {qo n m c} h h1 h2 h3 h4 h5 => by
    obtain ⟨n, rfl⟩ : ∃ k, n = k + 1 := ⟨n - 1, by lia⟩
    rw [Nat.add_sub_cancel] at h5
    rw [take_split lb c m h3] at h
    refine MJ.tb h fun y hy x hx => ?_
    obtain ⟨j, hj, hj2, rfl⟩ := mem_split (c := m - c) (by rw [show c + (m - c) = m by lia]; exact hy)
    have s1 := (List.pairwise_append.mp h.sa).1
    rw [take_last (by lia)] at s1 hx
    exact Pairwise.last_all O s1 (Bf.of_not O (h5 _ (by lia) (by lia)) (ix _ (memA n (by lia)) _ (memB _ hj2))) x hx
  have cutA : ∀ n m, n ≤ la.length → m < lb.length → ∃ c, c ≤ n ∧ (∀ i, i < c → lt (lb.getD m 0) (la.getD i 0) = false) ∧ ∀ i, c ≤ i → i < n → lt (lb.getD m 0) (la.getD i 0) = true := fun n m h1 h2 => by
    obtain ⟨c, hc, c1, c2⟩ := mono_cut (f := fun i => !lt (lb.getD m 0) (la.getD i 0)) n fun i j hij hj hf => by
      rcases Nat.lt_or_eq_of_le hij with hij | rfl
      · cases q : lt (lb.getD m 0) (la.getD i 0) with
        | false => rfl
        | true => rw [O.lt_ge q (Bf.ge O (pwA i j hij (by lia)))] at hf; cases hf
      · exact hf
    exact ⟨c, hc, fun i hi => by have := c1 i hi; simpa using this, fun i a b => by have := c2 i a b; simpa using this⟩
  have cutB : ∀ n m, n < la.length → m ≤ lb.length → ∃ c, c ≤ m ∧ (∀ i, i < c → lt (lb.getD i 0) (la.getD n 0) = true) ∧ ∀ i, c ≤ i → i < m → lt (lb.getD i 0) (la.getD n 0) = false := fun n m h1 h2 =>
    mono_cut (f := fun i => lt (lb.getD i 0) (la.getD n 0)) m fun i j hij hj hf => by
      rcases Nat.lt_or_eq_of_le hij with hij | rfl
      · exact O.ge_lt (Bf.ge O (pwB i j hij (by lia))) hf
      · exact hf
  exact ⟨ga, gb, hf, oneB, stepA, stepB, blockA, blockB, cutA, cutB⟩
/- a turn goes on from here -/
noncomputable def HJ (lt : Nat → Nat → Bool) (it : Array Keyed) (la lb : List Nat) (s : HG) (k : Nat) : Prop := ∃ q2 i2 j2 g2 ac bc, s = (none, i2, j2, tI it q2.reverse, g2, ac, bc) ∧ MJ lt la lb (la.take i2) (lb.take j2) q2 ∧ 1 ≤ i2 ∧ i2 ≤ la.length ∧ 2 ≤ j2 ∧ j2 ≤ lb.length ∧ i2 + j2 ≤ k
noncomputable def HU (lt : Nat → Nat → Bool) (it : Array Keyed) (la lb : List Nat) (st0 : SortSt) (k : Nat) (r : ForInStep HG) (st' : SortSt) : Prop := SG st0 st' ∧ match r with
  | .done s => (∃ x rest, s = (some x, rest) ∧ PR lt it la lb x) ∨ HJ lt it la lb s k
  | .yield s => HJ lt it la lb s (k - 1)
section
variable {prog : Program} {w : World} {A : Around} {E : Value → Shared → Prop} {I : Shared → Prop} {κ : SortKind} {it : Array Keyed} {lt : Nat → Nat → Bool} {N : Nat} {la lb : List Nat} {st0 st : SortSt} {q : List Nat} {n m mg ac bc k : Nat}
theorem hiE_ok (h : HiH lt N la lb) (sg : SG st0 st) (mj : MJ lt la lb (la.take n) (lb.take m) q) (h1 : 1 ≤ n) (h2 : n ≤ la.length) (h3 : 2 ≤ m) (h4 : m ≤ lb.length) (hl : lt (lb.getD (m - 1) 0) (la.getD (n - 1) 0) = true) (hk : n + m ≤ k) :
    KP (model prog w) A E I (hiE (tI it la) (tI it lb) mg ac bc n m (tI it q.reverse)) (HU lt it la lb st0 k) st := by
  have h5 : n - 1 < la.length := Nat.lt_of_lt_of_le (Nat.sub_one_lt_of_lt h1) h2
  refine .bind (KP.elem (l := la) (i := n - 1) h5 ?_)
  rw [tI_pushr]
  have kD := h.stepA mj h1 h2 (Nat.le_of_succ_le h3) h4 hl
  refine KP.ite (fun e => ?_) fun e => ?_
  · exact .pure ⟨sg, .inl ⟨_, _, rfl, PR.hiA kD (by simpa using e)⟩⟩
  have e6 : 1 ≤ n - 1 := Nat.pos_of_ne_zero (by simpa using e)
  exact KP.ite (fun zz1 => .pure ⟨sg, .inr ⟨_, _, _, _, _, _, rfl, kD, e6, Nat.le_of_lt h5, h3, h4, by lia⟩⟩) fun zz1 => .pure ⟨sg, _, _, _, _, _, _, rfl, kD, e6, Nat.le_of_lt h5, h3, h4, by lia⟩
theorem hiC_ok (H : Asks prog w A I κ it lt N) (h : HiH lt N la lb) (hκ : kindOf st = κ) (sg : SG st0 st) (mj : MJ lt la lb (la.take n) (lb.take m) q) (h1 : 1 ≤ n) (h2 : n ≤ la.length) (h3 : 2 ≤ m) (h4 : m ≤ lb.length) (hl : lt (lb.getD (m - 1) 0) (la.getD (n - 1) 0) = false) (hk : n + m ≤ k) :
    KP (model prog w) A E I (hiC (tI it la) (tI it lb) mg ac bc n m (tI it q.reverse)) (HU lt it la lb st0 k) st := by
  have h5 : n - 1 < la.length := Nat.lt_of_lt_of_le (Nat.sub_one_lt_of_lt h1) h2
  have h6 : m - 1 < lb.length := Nat.lt_of_lt_of_le (Nat.sub_one_lt_of_lt h3) h4
  have h6' : m - 1 ≤ lb.length := Nat.le_of_lt h6
  refine .bind (KP.elem (l := lb) (i := m - 1) h6 ?_)
  rw [tI_pushr]
  have kB := h.stepB mj h1 h2 (Nat.le_of_succ_le h3) h4 hl
  refine KP.ite (fun e => ?_) fun e => ?_
  · exact .pure ⟨sg, .inl ⟨_, _, rfl, PR.hiF kB (h.oneB _ (by simpa using e)) h.hf⟩⟩
  have e' : ¬ m - 1 = 1 := by simpa using e
  obtain ⟨d, hd, v1, v2⟩ := h.cutB (n - 1) (m - 1) h5 h6'
  refine .bind (KP.elem (l := la) (i := n - 1) h5 (.bind (gallop_t (l := lb) (base := 0) (c := d) H h.gb (h.ga _ h5) (by rw [Nat.zero_add]; exact h6') (by lia) hκ hd (fun i hi => by rw [if_pos rfl, Nat.zero_add]; exact v1 i hi) (fun i a b => by rw [if_pos rfl, Nat.zero_add]; exact v2 i a b) ?_)))
  refine KP.ite (fun hc0 => ?_) fun hc0 => ?_
  · have kC := h.blockB kB h1 h2 hd h6' v2
    rw [show tI it ([lb.getD (m - 1) 0] ++ q).reverse ++ ((tI it lb).extract d (m - 1)).reverse = tI it ((lb.take (m - 1)).drop d ++ ([lb.getD (m - 1) 0] ++ q)).reverse from tI_appr _ _ _ _]
    refine KP.ite (fun e => ?_) fun e => KP.ite (fun e3 => ?_) fun e3 => ?_
    · exact .pure ⟨sg, .inl ⟨_, _, rfl, PR.hiF kC (h.oneB _ (by simpa using e)) h.hf⟩⟩
    · exact .pure ⟨sg, .inl ⟨_, _, rfl, PR.hiB kC (by simpa using e3)⟩⟩
    · have e4 : ¬ d = 1 := by simpa using e
      have e5 : ¬ d = 0 := by simpa using e3
      exact hiE_ok h sg kC h1 h2 (by lia) (Nat.le_trans hd h6') (v1 (d - 1) (by lia)) (by lia)
  · have w : d = m - 1 := by lia
    exact hiE_ok h sg kB h1 h2 (by lia) h6' (by rw [← w]; exact v1 (d - 1) (by lia)) (by lia)
theorem hiB_ok (H : Asks prog w A I κ it lt N) (h : HiH lt N la lb) (hκ : kindOf st = κ) (sg : SG st0 st) (mj : MJ lt la lb (la.take n) (lb.take m) q) (h1 : 1 ≤ n) (h2 : n ≤ la.length) (h3 : 2 ≤ m) (h4 : m ≤ lb.length) (hk : n + m ≤ k) :
    KP (model prog w) A E I (hiB (tI it la) (tI it lb) mg ac bc n m (tI it q.reverse)) (HU lt it la lb st0 k) st := by
  have h6 : m - 1 < lb.length := Nat.lt_of_lt_of_le (Nat.sub_one_lt_of_lt h3) h4
  obtain ⟨c, hc, u1, u2⟩ := h.cutA n (m - 1) h2 h6
  refine .bind (KP.setGallop fun st4 sg4 => ?_)
  have sg5 := sg.trans sg4
  have hκ5 := sg4.k.trans hκ
  refine .bind (KP.elem (l := lb) (i := m - 1) h6 (.bind (gallop_t (l := la) (base := 0) (c := c) H h.ga (h.gb _ h6) (by rw [Nat.zero_add]; exact h2) (Nat.sub_one_lt_of_lt h1) hκ5 hc (fun i hi => by rw [if_neg (by simp), Nat.zero_add, u1 i hi]; rfl) (fun i a b => by rw [if_neg (by simp), Nat.zero_add, u2 i a b]; rfl) ?_)))
  refine KP.ite (fun hc0 => ?_) fun hc0 => ?_
  · have kA := h.blockA mj hc h2 (Nat.le_of_succ_le h3) h4 u2
    rw [show tI it q.reverse ++ ((tI it la).extract c n).reverse = tI it ((la.take n).drop c ++ q).reverse from tI_appr _ _ _ _]
    refine KP.ite (fun e => ?_) fun e => ?_
    · exact .pure ⟨sg5, .inl ⟨_, _, rfl, PR.hiA kA (by simpa using e)⟩⟩
    · have e' : 0 < c := Nat.pos_of_ne_zero (by simpa using e)
      exact hiC_ok H h hκ5 sg5 kA e' (Nat.le_trans hc h2) h3 h4 (u1 (c - 1) (Nat.sub_one_lt_of_lt e')) (Nat.le_trans (Nat.add_le_add_right hc _) hk)
  · have w : c = n := by lia
    exact hiC_ok H h hκ5 sg5 mj h1 h2 h3 h4 (by rw [← w]; exact u1 (c - 1) (by lia)) hk
/- the first, plain part of a turn -/
noncomputable def HL (lt : Nat → Nat → Bool) (it : Array Keyed) (la lb : List Nat) (s : HI) (R : Nat → Prop) : Prop := ∃ q1 i1 j1 ac bc, s = (none, i1, j1, tI it q1.reverse, ac, bc) ∧ MJ lt la lb (la.take i1) (lb.take j1) q1 ∧ 1 ≤ i1 ∧ i1 ≤ la.length ∧ 2 ≤ j1 ∧ j1 ≤ lb.length ∧ R (i1 + j1)
theorem hiI_ok (H : Asks prog w A I κ it lt N) (h : HiH lt N la lb) (hκ : kindOf st = κ) (sg : SG st0 st) (mj : MJ lt la lb (la.take n) (lb.take m) q) (h1 : 1 ≤ n) (h2 : n ≤ la.length) (h3 : 2 ≤ m) (h4 : m ≤ lb.length) (x : Nat) :
    KP (model prog w) A E I (hiI (tI it la) (tI it lb) mg x (none, n, m, tI it q.reverse, ac, bc)) (fun r st' => SG st0 st' ∧ match r with
      | .done s => (∃ x rest, s = (some x, rest) ∧ PR lt it la lb x) ∨ HL lt it la lb s (· + 1 = n + m)
      | .yield s => HL lt it la lb s (· + 1 = n + m)) st := by
  have h5 : n - 1 < la.length := Nat.lt_of_lt_of_le (Nat.sub_one_lt_of_lt h1) h2
  have h6 : m - 1 < lb.length := Nat.lt_of_lt_of_le (Nat.sub_one_lt_of_lt h3) h4
  have h7 : 1 ≤ m := Nat.le_of_succ_le h3
  refine .bind (KP.elem (l := lb) (i := m - 1) h6 (.bind (KP.elem (l := la) (i := n - 1) h5 (.bind (KP.ask H (h.gb _ h6) (h.ga _ h5) hκ ?_)))))
  refine KP.ite (c := lt (lb.getD (m - 1) 0) (la.getD (n - 1) 0) = true) (fun c => ?_) fun c => ?_
  · refine .bind (KP.elem (l := la) (i := n - 1) h5 ?_)
    dsimp only
    rw [tI_pushr]
    have k2 := h.stepA mj h1 h2 h7 h4 c
    refine KP.ite (fun e => ?_) fun e => ?_
    · exact .pure ⟨sg, .inl ⟨_, _, rfl, PR.hiA k2 (by simpa using e)⟩⟩
    · have w1 : 1 ≤ n - 1 := Nat.pos_of_ne_zero (by simpa using e)
      have w2 : n - 1 + m + 1 = n + m := by lia
      exact KP.ite (fun zz1 => .pure ⟨sg, .inr ⟨_, _, _, _, _, rfl, k2, w1, Nat.le_of_lt h5, h3, h4, w2⟩⟩) fun zz1 => .pure ⟨sg, _, _, _, _, _, rfl, k2, w1, Nat.le_of_lt h5, h3, h4, w2⟩
  · have c : lt (lb.getD (m - 1) 0) (la.getD (n - 1) 0) = false := by simpa using c
    refine .bind (KP.elem (l := lb) (i := m - 1) h6 ?_)
    dsimp only
    rw [tI_pushr]
    have k2 := h.stepB mj h1 h2 h7 h4 c
    refine KP.ite (fun e => ?_) fun e => ?_
    · exact .pure ⟨sg, .inl ⟨_, _, rfl, PR.hiF k2 (h.oneB _ (by simpa using e)) h.hf⟩⟩
    · have e' : ¬ m - 1 = 1 := by simpa using e
      have w1 : 2 ≤ m - 1 := by lia
      have w2 : n + (m - 1) + 1 = n + m := by lia
      exact KP.ite (fun zz1 => .pure ⟨sg, .inr ⟨_, _, _, _, _, rfl, k2, h1, h2, w1, Nat.le_of_lt h6, w2⟩⟩) fun zz1 => .pure ⟨sg, _, _, _, _, _, rfl, k2, h1, h2, w1, Nat.le_of_lt h6, w2⟩
theorem HL.mono {s : HI} {R R' : Nat → Prop} (h : HL lt it la lb s R) (k : ∀ x, R x → R' x) : HL lt it la lb s R' := h.imp fun zz1 h => h.imp fun zz1 h => h.imp fun zz1 h => h.imp fun zz1 h => h.imp fun zz1 h => h.imp_right fun h => h.imp_right fun h => h.imp_right fun h => h.imp_right fun h => h.imp_right fun h => h.imp_right (k _)
theorem HJ.mono {s : HG} {k k' : Nat} (h : HJ lt it la lb s k) (hk : k ≤ k') : HJ lt it la lb s k' := h.imp fun zz1 h => h.imp fun zz1 h => h.imp fun zz1 h => h.imp fun zz1 h => h.imp fun zz1 h => h.imp fun zz1 h => h.imp_right fun h => h.imp_right fun h => h.imp_right fun h => h.imp_right fun h => h.imp_right fun h => h.imp_right fun z => Nat.le_trans z hk
/- the state of the outer loop -/
noncomputable def HZ (lt : Nat → Nat → Bool) (it : Array Keyed) (la lb : List Nat) (s : HO) (k : Nat) : Prop := ∃ qo n m g, s = (none, n, m, tI it qo.reverse, g) ∧ MJ lt la lb (la.take n) (lb.take m) qo ∧ 1 ≤ n ∧ n ≤ la.length ∧ 2 ≤ m ∧ m ≤ lb.length ∧ n + m + k ≤ la.length + lb.length
theorem hiO_ok (H : Asks prog w A I κ it lt N) (h : HiH lt N la lb) (hκ : kindOf st = κ) (sg : SG st0 st) (mj : MJ lt la lb (la.take n) (lb.take m) q) (h1 : 1 ≤ n) (h2 : n ≤ la.length) (h3 : 2 ≤ m) (h4 : m ≤ lb.length) (hk : n + m + k ≤ la.length + lb.length) (x : Nat) :
    KP (model prog w) A E I (hiO (tI it la) (tI it lb) (la.length + lb.length) x (none, n, m, tI it q.reverse, mg)) (fun r st' => SG st0 st' ∧ match r with
      | .done s => ∃ x rest, s = (some x, rest) ∧ PR lt it la lb x
      | .yield s => HZ lt it la lb s (k + 1)) st := by
  refine .bind (KP.range (P := fun r st2 => SG st0 st2 ∧ ((∃ x rest, r = (some x, rest) ∧ PR lt it la lb x) ∨ HL lt it la lb r (· < n + m))) (fun t r st2 => SG st0 st2 ∧ HL lt it la lb r (· + t = n + m))
    ⟨sg, q, n, m, 0, 0, rfl, mj, h1, h2, h3, h4, rfl⟩ (fun x t r st2 hn hJ => ?_) (fun r st2 hJ => ?_) |>.mono fun r st2 hJ => ?_)
  · obtain ⟨sg2, q1, i1, j1, ac, bc, rfl, m1, b1, b2, b3, b4, hm1⟩ := hJ
    have hm1 : i1 + j1 + t = n + m := hm1
    have hκ2 : kindOf st2 = κ := sg2.k.trans (sg.k.symm.trans hκ)
    refine (hiI_ok H h hκ2 sg2 m1 b1 b2 b3 b4 x).mono fun r st' hr => ?_
    obtain ⟨sg3, hr⟩ := hr
    cases r with
    | done s => exact ⟨sg3, hr.imp_right fun z => z.mono fun x (l : x + 1 = i1 + j1) => show x < n + m by lia⟩
    | yield s => exact ⟨sg3, hr.mono fun x (l : x + 1 = i1 + j1) => show x + (t + 1) = n + m by lia⟩
  · obtain ⟨sg2, q1, i1, j1, ac, bc, rfl, m1, b1, b2, b3, b4, hm1⟩ := hJ
    have hm1 : i1 + j1 + (la.length + lb.length - 0) = n + m := hm1
    lia
  obtain ⟨sg2, ⟨x, rest, rfl, pr⟩ | ⟨q1, i1, j1, ac, bc, rfl, m1, b1, b2, b3, b4, hm1⟩⟩ := hJ
  · exact .pure ⟨sg2, x, _, rfl, pr⟩
  have hm1 : i1 + j1 < n + m := hm1
  refine .bind (KP.rule (.bind ?_))
  refine (KP.range (P := fun r st3 => SG st0 st3 ∧ ((∃ x rest, r = (some x, rest) ∧ PR lt it la lb x) ∨ HJ lt it la lb r (i1 + j1))) (fun t r st3 => SG st0 st3 ∧ HJ lt it la lb r (i1 + j1 - t))
    ⟨sg2, q1, i1, j1, _, ac, bc, rfl, m1, b1, b2, b3, b4, Nat.le_refl _⟩ (fun x t r st3 hn hJ => ?_) (fun r st3 hJ => ?_)).mono fun r st3 hJ => ?_
  · obtain ⟨sg3, q2, i2, j2, g2, ac, bc, rfl, m2, c1, c2, c3, c4, hm2⟩ := hJ
    have hκ3 : kindOf st3 = κ := sg3.k.trans (sg.k.symm.trans hκ)
    have turn : ∀ mg', KP (model prog w) A E I (hiB (tI it la) (tI it lb) mg' ac bc i2 j2 (tI it q2.reverse)) (HU lt it la lb st0 (i1 + j1 - t)) st3 := fun mg' => hiB_ok H h hκ3 sg3 m2 c1 c2 c3 c4 hm2
    refine KP.mono (KP.ite (fun zz1 => turn _) fun zz1 => turn _) fun r st' hr => ?_
    obtain ⟨sg4, hr⟩ := hr
    cases r with
    | done s => exact ⟨sg4, hr.imp_right fun z => z.mono (Nat.sub_le _ _)⟩
    | yield s => exact ⟨sg4, hr⟩
  · obtain ⟨sg3, q2, i2, j2, g2, ac, bc, rfl, m2, c1, c2, c3, c4, hm2⟩ := hJ
    lia
  obtain ⟨sg3, ⟨x, rest, rfl, pr⟩ | ⟨q2, i2, j2, g2, ac, bc, rfl, m2, c1, c2, c3, c4, hm2⟩⟩ := hJ
  · exact .pure ⟨sg3, x, _, rfl, pr⟩
  refine .bind (KP.setGallop fun st4 sg4 => ?_)
  exact .pure ⟨sg3.trans sg4, q2, i2, j2, _, rfl, m2, c1, c2, c3, c4, by lia⟩
theorem mergeHi_ok {P : Array Keyed → SortSt → Prop} (O : SOrd lt) (H : Asks prog w A I κ it lt N) (hla : ∀ x ∈ la, x < N) (hlb : ∀ x ∈ lb, x < N) (hκ : kindOf st = κ) (sa : la.Pairwise (Bf lt)) (sb : lb.Pairwise (Bf lt)) (ix : ∀ x ∈ la, ∀ y ∈ lb, x < y)
    (na : 0 < la.length) (nb : 0 < lb.length) (h0 : lt (lb.getD 0 0) (la.getD 0 0) = true) (hz : ∀ y ∈ lb, Bf lt y (la.getD (la.length - 1) 0)) (q : ∀ r st', PR lt it la lb r → SG st st' → P r st') : KP (model prog w) A E I (mergeHiP (tI it la) (tI it lb)) P st := by
  have h := hiH_of (N := N) O hla hlb sa sb ix na nb h0
  have zA := tI_size (it := it) la
  have zB := tI_size (it := it) lb
  have mj0 : MJ lt la lb (la.take la.length) (lb.take lb.length) [] := ⟨by rw [List.take_length, List.take_length, List.append_nil], by rw [List.take_length, List.append_nil]; exact sa, by rw [List.take_length, List.append_nil]; exact sb, fun x hx y hy => ix x (List.mem_of_mem_take hx) y (List.mem_of_mem_take hy)⟩
  have mj1 : MJ lt la lb (la.take (la.length - 1)) (lb.take lb.length) [la.getD (la.length - 1) 0] := by
    have e : la.take la.length = la.take (la.length - 1) ++ [la.getD (la.length - 1) 0] := by
      have := take_last (l := la) (n := la.length - 1) (Nat.sub_one_lt_of_lt na)
      rwa [Nat.sub_add_cancel na] at this
    rw [e] at mj0
    exact MJ.ta mj0 fun x hx y hy => by rw [List.mem_singleton.mp hx]; exact hz y (List.mem_of_mem_take hy)
  refine hiM_of (.bind (KP.rule (.bind ?_)))
  rw [zA, zB]
  refine KP.elem (l := la) (i := la.length - 1) (Nat.sub_one_lt_of_lt na) ?_
  rw [show (#[kas_item it (la.getD (la.length - 1) 0)] : Array Keyed) = tI it [la.getD (la.length - 1) 0].reverse from (by unfold tI; simp)]
  refine KP.ite (fun e => ?_) fun e1 => ?_
  · exact .pure (q _ _ (PR.hiA mj1 (by simpa using e)) (.refl _))
  have e1' : ¬ la.length - 1 = 0 := by simpa using e1
  refine KP.ite (fun e => ?_) fun e2 => ?_
  · exact .pure (q _ _ (PR.hiF mj1 (h.oneB _ (by simpa using e)) h.hf) (.refl _))
  have e2' : ¬ lb.length = 1 := by simpa using e2
  refine .bind (KP.get (.bind ?_))
  refine (KP.range (P := fun r st' => SG st st' ∧ ∃ x rest, r = (some x, rest) ∧ PR lt it la lb x) (fun i r st' => SG st st' ∧ HZ lt it la lb r (i + 1)) ⟨.refl _, _, _, _, _, rfl, mj1, by lia, Nat.sub_le _ _, by lia, Nat.le_refl _, by lia⟩ (fun x i r st' hi hJ => ?_) (fun r st' hJ => ?_)).mono fun r st' hJ => ?_
  · obtain ⟨sg, qo, n, m, g, rfl, mi, a1, a2, a3, a4, hm⟩ := hJ
    refine (hiO_ok H h (sg.k.trans hκ) sg mi a1 a2 a3 a4 hm x).mono fun r st2 hr => ?_
    cases r <;> exact hr
  · obtain ⟨sg, qo, n, m, g, rfl, mi, a1, a2, a3, a4, hm⟩ := hJ
    lia
  · obtain ⟨sg, x, rest, rfl, pr⟩ := hJ
    exact .pure (q x st' pr sg)
end
end Mine


set_option maxHeartbeats 4000000

namespace Mine
open PySem PyProof.Rows

theorem KP.set {M : Model} {A : Around} {E : Value → Shared → Prop} {I : Shared → Prop} {σ : Type} {st st' : σ} {P : PUnit → σ → Prop} (h : P ⟨⟩ st') : KP M A E I (set st' : StateT σ Sem PUnit) P st := fun s hs => by
  unfold kasC
  rw [StateT.run_set]
  exact wpAny_pure ⟨h, hs⟩
/- items written back one after another -/
theorem fold_set {α : Type} (off : Nat) : ∀ (xs : List α) (j : Nat) (a : Array α), off + j + xs.length ≤ a.size →
    ((xs.zipIdx j).foldl (fun a x => a.setIfInBounds (off + x.2) x.1) a).toList = a.toList.take (off + j) ++ xs ++ a.toList.drop (off + j + xs.length)
  | [], j, a, h => by
    show a.toList = _
    rw [List.append_nil, List.length_nil, Nat.add_zero, List.take_append_drop]
  | x :: xs, j, a, h => by
    rw [List.length_cons] at h
    rw [List.zipIdx_cons, List.foldl_cons, fold_set off xs (j + 1) _ (by rw [Array.size_setIfInBounds]; lia)]
    have hs : (a.setIfInBounds (off + j) x).toList = a.toList.set (off + j) x := by simp
    have hl : off + j < a.toList.length := by rw [Array.length_toList]; lia
    rw [hs]
    have e1 : (a.toList.set (off + j) x).take (off + (j + 1)) = a.toList.take (off + j) ++ [x] := by
      rw [show off + (j + 1) = off + j + 1 by lia, List.take_add_one, List.take_set, List.getElem?_set_self hl, List.set_eq_of_length_le (by rw [List.length_take]; lia)]; rfl
    have e2 : (a.toList.set (off + j) x).drop (off + (j + 1) + xs.length) = a.toList.drop (off + j + (x :: xs).length) := by
      rw [List.drop_set_of_lt (by lia), List.length_cons]
      congr 1; lia
    rw [e1, e2, List.append_assoc, List.append_assoc, List.append_assoc]; rfl
/- the middle part merged -/
theorem mid_sorted {lt : Nat → Nat → Bool} {p1 p2 q1 q2 ro : List Nat} (hro : ro.Perm (p2 ++ q1)) (hs : ro.Pairwise (Bf lt)) (sa : (p1 ++ p2).Pairwise (Bf lt)) (sb : (q1 ++ q2).Pairwise (Bf lt)) (h1 : ∀ x ∈ p1, ∀ y ∈ q1 ++ q2, Bf lt x y) (h2 : ∀ x ∈ p2, ∀ y ∈ q2, Bf lt x y) :
    (p1 ++ ro ++ q2).Perm ((p1 ++ p2) ++ (q1 ++ q2)) ∧ (p1 ++ ro ++ q2).Pairwise (Bf lt) := by
  have s1 := List.pairwise_append.mp sa
  have s2 := List.pairwise_append.mp sb
  refine ⟨?_, ?_⟩
  · have e : (p1 ++ p2) ++ (q1 ++ q2) = p1 ++ (p2 ++ q1) ++ q2 := by simp only [List.append_assoc]
    rw [e]
    exact List.Perm.append_right _ (List.Perm.append_left _ hro)
  · rw [List.append_assoc, List.pairwise_append, List.pairwise_append]
    refine ⟨s1.1, ⟨hs, s2.2.1, fun x hx y hy => ?_⟩, fun x hx y hy => ?_⟩
    · rcases List.mem_append.mp (hro.mem_iff.mp hx) with hx | hx
      · exact h2 x hx y hy
      · exact s2.2.2 x hx y hy
    · rcases List.mem_append.mp hy with hy | hy
      · rcases List.mem_append.mp (hro.mem_iff.mp hy) with hy | hy
        · exact s1.2.2 x hx y hy
        · exact h1 x hx y (List.mem_append_left _ hy)
      · exact h1 x hx y (List.mem_append_right _ hy)
section
variable {prog : Program} {w : World} {A : Around} {E : Value → Shared → Prop} {I : Shared → Prop} {κ : SortKind} {it : Array Keyed} {lt : Nat → Nat → Bool} {N : Nat}
set_option maxHeartbeats 8000000 in
/- two runs that make up the whole list, merged -/
theorem mergeAt_ok {la lb : List Nat} {g pw pw2 : Nat} {P : Bool → SortSt → Prop} (O : SOrd lt) (H : Asks prog w A I κ it lt N) (hla : ∀ x ∈ la, x < N) (hlb : ∀ x ∈ lb, x < N) (sa : la.Pairwise (Bf lt)) (sb : lb.Pairwise (Bf lt)) (ix : ∀ x ∈ la, ∀ y ∈ lb, x < y) (na : 0 < la.length) (nb : 0 < lb.length)
    (q : ∀ (ro : List Nat) (st' : SortSt), ro.Perm (la ++ lb) → ro.Pairwise (Bf lt) → kindOf st' = κ → arrOf st' = tI it ro → (pendingOf st').size = 1 → failedOf st' = none → P true st') :
    KP (model prog w) A E I (mergeAt' 0) P (SortSt.mk' κ (tI it (la ++ lb)) #[(0, la.length, pw), (la.length, lb.length, pw2)] g none) := fun s hs => by
  have gl : ∀ i, i < (la ++ lb).length → (la ++ lb).getD i 0 < N := fun i hi => by
    rw [List.getD_eq_getElem?_getD, List.getElem?_eq_getElem hi]
    have := List.getElem_mem hi
    rcases List.mem_append.mp this with h | h
    · exact hla _ h
    · exact hlb _ h
  have gA : ∀ i, i < la.length → (la ++ lb).getD i 0 = la.getD i 0 := fun i hi => by
    rw [List.getD_eq_getElem?_getD, List.getD_eq_getElem?_getD, List.getElem?_append_left hi]
  have gB : ∀ i, (la ++ lb).getD (la.length + i) 0 = lb.getD i 0 := fun i => by
    rw [List.getD_eq_getElem?_getD, List.getD_eq_getElem?_getD, List.getElem?_append_right (by lia), Nat.add_sub_cancel_left]
  have memA : ∀ i, i < la.length → la.getD i 0 ∈ la := fun i hi => by rw [List.getD_eq_getElem?_getD, List.getElem?_eq_getElem hi]; exact List.getElem_mem _
  have memB : ∀ i, i < lb.length → lb.getD i 0 ∈ lb := fun i hi => by rw [List.getD_eq_getElem?_getD, List.getElem?_eq_getElem hi]; exact List.getElem_mem _
  have pwA : ∀ i j, i < j → j < la.length → Bf lt (la.getD i 0) (la.getD j 0) := fun i j hij hj => by
    have := List.pairwise_iff_getElem.mp sa i j (by lia) hj hij
    simpa [show i < la.length by lia, hj] using this
  have pwB : ∀ i j, i < j → j < lb.length → Bf lt (lb.getD i 0) (lb.getD j 0) := fun i j hij hj => by
    have := List.pairwise_iff_getElem.mp sb i j (by lia) hj hij
    simpa [show i < lb.length by lia, hj] using this
  have hb0 : ∀ x, Bf lt x (lb.getD 0 0) → ∀ y ∈ lb, Bf lt x y := fun x hx y hy => by
    have e : lb = lb.getD 0 0 :: lb.drop 1 := by have := drop_head (l := lb) (i := 0) nb; rwa [List.drop_zero] at this
    rw [e] at sb hy
    exact Pairwise.head_all O sb hx y hy
  obtain ⟨c, hc, c1, c2⟩ := mono_cut (f := fun i => !lt (lb.getD 0 0) (la.getD i 0)) la.length fun i j hij hj hf => by
    rcases Nat.lt_or_eq_of_le hij with hij | rfl
    · cases q : lt (lb.getD 0 0) (la.getD i 0) with
      | false => rfl
      | true => rw [O.lt_ge q (Bf.ge O (pwA i j hij hj))] at hf; cases hf
    · exact hf
  obtain ⟨d, hd, d1, d2⟩ := mono_cut (f := fun i => lt (lb.getD i 0) (la.getD (la.length - 1) 0)) lb.length fun i j hij hj hf => by
    rcases Nat.lt_or_eq_of_le hij with hij | rfl
    · exact O.ge_lt (Bf.ge O (pwB i j hij hj)) hf
    · exact hf
  have first : ∀ i, i < c → ∀ y ∈ lb, Bf lt (la.getD i 0) y := fun i hi => hb0 _ (Bf.of_not O (by have := c1 i hi; simpa using this) (ix _ (memA i (by lia)) _ (memB 0 nb)))
  unfold kasC
  wp_delta
  wp_delta
  wp_delta
  refine KP.of ?_ s hs
  refine .bind (KP.get ?_)
  show KP (model prog w) A E I (set (SortSt.mk' κ (tI it (la ++ lb)) ((#[(0, la.length, pw), (la.length, lb.length, pw2)] : Array (Nat × Nat × Nat)).setIfInBounds 0 (0, la.length + lb.length, pw) |>.eraseIdxIfInBounds (0 + 1)) g none) >>= _) P _
  have hps : ((#[(0, la.length, pw), (la.length, lb.length, pw2)] : Array (Nat × Nat × Nat)).setIfInBounds 0 (0, la.length + lb.length, pw) |>.eraseIdxIfInBounds (0 + 1)).size = 1 := by simp
  generalize ((#[(0, la.length, pw), (la.length, lb.length, pw2)] : Array (Nat × Nat × Nat)).setIfInBounds 0 (0, la.length + lb.length, pw) |>.eraseIdxIfInBounds (0 + 1)) = pend at hps
  refine .bind (KP.set ?_)
  have hst : kindOf (SortSt.mk' κ (tI it (la ++ lb)) pend g none) = κ := rfl
  refine .bind (KP.elem (show la.length < (la ++ lb).length by rw [List.length_append]; lia) ?_)
  rw [show (la ++ lb).getD la.length 0 = lb.getD 0 0 from gB 0]
  refine .bind (gallop_t (c := c) (base := 0) H gl (hlb _ (memB 0 nb)) (by rw [List.length_append]; lia) na hst hc (fun i hi => by rw [if_neg (by simp), Nat.zero_add, gA i (by lia)]; exact c1 i hi) (fun i h1 h2 => by rw [if_neg (by simp), Nat.zero_add, gA i h2]; exact c2 i h1 h2) ?_)
  dsimp only
  by_cases e1 : (la.length - c == 0) = true
  · rw [if_pos e1]
    have e1' : c = la.length := by have : la.length - c = 0 := by simpa using e1
                                   lia
    refine .pure (q (la ++ lb) _ (.refl _) (List.pairwise_append.mpr ⟨sa, sb, fun x hx y hy => ?_⟩) rfl rfl hps rfl)
    obtain ⟨i, hi, rfl⟩ := List.getElem_of_mem hx
    have := first i (by lia) y hy
    simpa [hi] using this
  rw [if_neg e1]
  have e1' : c < la.length := by have : ¬ la.length - c = 0 := by simpa using e1
                                 lia
  rw [show 0 + c + (la.length - c) - 1 = la.length - 1 by lia]
  refine .bind (KP.elem (i := la.length - 1) (by rw [List.length_append]; lia) ?_)
  rw [gA (la.length - 1) (by lia)]
  refine .bind (gallop_t (c := d) H gl (hla _ (memA _ (by lia))) (by rw [List.length_append]; lia) (by lia) hst hd (fun i hi => by rw [if_pos rfl, gB]; exact d1 i hi) (fun i h1 h2 => by rw [if_pos rfl, gB]; exact d2 i h1 h2) ?_)
  dsimp only
  have hlast : lt (lb.getD 0 0) (la.getD (la.length - 1) 0) = true := by have := c2 (la.length - 1) (by lia) (by lia); simpa using this
  have hd0 : 0 < d := by
    rcases Nat.eq_zero_or_pos d with z | z
    · have := d2 0 (by lia) nb; rw [hlast] at this; cases this
    · exact z
  rw [if_neg (show ¬ (d == 0) = true by simp; lia)]
  have ex : (tI it (la ++ lb)).extract (0 + c) la.length = tI it (la.drop c) := by
    rw [tI_ext, Nat.zero_add, List.take_left]
  have ey : (tI it (la ++ lb)).extract la.length (la.length + d) = tI it (lb.take d) := by
    rw [tI_ext, List.take_append, List.take_of_length_le (by lia), Nat.add_sub_cancel_left, List.drop_left]
  rw [ex, ey]
  have dget : ∀ i, (la.drop c).getD i 0 = la.getD (c + i) 0 := fun i => by rw [List.getD_eq_getElem?_getD, List.getD_eq_getElem?_getD, List.getElem?_drop]
  have tget : ∀ i, i < d → (lb.take d).getD i 0 = lb.getD i 0 := fun i hi => by rw [List.getD_eq_getElem?_getD, List.getD_eq_getElem?_getD, List.getElem?_take_of_lt hi]
  have h0' : lt ((lb.take d).getD 0 0) ((la.drop c).getD 0 0) = true := by
    rw [tget 0 hd0, dget 0]
    have := c2 c (Nat.le_refl _) e1'; simpa using this
  have hz' : ∀ y ∈ lb.take d, Bf lt y ((la.drop c).getD ((la.drop c).length - 1) 0) := fun y hy => by
    obtain ⟨i, hi, rfl⟩ := List.getElem_of_mem hy
    rw [List.length_take] at hi
    rw [dget, List.length_drop, show c + (la.length - c - 1) = la.length - 1 by lia, List.getElem_take]
    have := d1 i (by lia)
    exact .inl (by simpa [show i < lb.length by lia] using this)
  have rest : ∀ (r : Array Keyed) (st' : SortSt), PR lt it (la.drop c) (lb.take d) r → SG (SortSt.mk' κ (tI it (la ++ lb)) pend g none) st' → P true (SortSt.mk' (kindOf st') (r.toList.zipIdx.foldl (fun a x => a.setIfInBounds (0 + c + x.2) x.1) (arrOf st')) (pendingOf st') (gallopOf st') (failedOf st')) := fun r st' pr sg => by
    obtain ⟨ro, rfl, rp, rs⟩ := pr
    have hlen : ro.length = la.length - c + d := by rw [rp.length_eq, List.length_append, List.length_drop, List.length_take]; lia
    have m := mid_sorted (p1 := la.take c) (p2 := la.drop c) (q1 := lb.take d) (q2 := lb.drop d) rp rs (by rw [List.take_append_drop]; exact sa) (by rw [List.take_append_drop]; exact sb) (fun x hx y hy => by
      rw [List.take_append_drop] at hy
      obtain ⟨i, hi, rfl⟩ := List.getElem_of_mem hx
      rw [List.length_take] at hi
      have := first i (by lia) y hy
      rw [List.getElem_take]
      simpa [show i < la.length by lia] using this) (fun x hx y hy => by
      obtain ⟨i, hi, rfl⟩ := List.getElem_of_mem hx
      obtain ⟨j, hj, rfl⟩ := List.getElem_of_mem hy
      rw [List.length_drop] at hi hj
      rw [List.getElem_drop, List.getElem_drop]
      have h1 : Bf lt (la.getD (la.length - 1) 0) (lb.getD (d + j) 0) := Bf.of_not O (d2 (d + j) (by lia) (by lia)) (ix _ (memA _ (by lia)) _ (memB _ (by lia)))
      have e2 : lb.getD (d + j) 0 = lb[d + j] := by simp [show d + j < lb.length by lia]
      have e3 : la.getD (c + i) 0 = la[c + i] := by simp [show c + i < la.length by lia]
      rw [← e2, ← e3]
      rcases Nat.lt_or_eq_of_le (show c + i ≤ la.length - 1 by lia) with z | z
      · exact Bf.trans O (pwA _ _ z (by lia)) h1
      · rw [z]; exact h1)
    rw [List.take_append_drop, List.take_append_drop] at m
    refine q _ _ m.1 m.2 sg.k ?_ (by show (pendingOf st').size = 1; rw [sg.p]; exact hps) sg.f
    show (tI it ro).toList.zipIdx.foldl (fun a x => a.setIfInBounds (0 + c + x.2) x.1) (arrOf st') = _
    rw [sg.a]
    apply Array.toList_inj.mp
    show ((tI it ro).toList.zipIdx.foldl (fun a x => a.setIfInBounds (0 + c + x.2) x.1) (tI it (la ++ lb))).toList = _
    have hl2 : (tI it ro).toList.length = ro.length := by rw [Array.length_toList, tI_size]
    have hs2 : (tI it (la ++ lb)).size = la.length + lb.length := by rw [tI_size, List.length_append]
    rw [fold_set (0 + c) _ 0 _ (by rw [hl2, hlen, hs2]; lia), hl2, hlen]
    unfold tI
    simp only [Array.toList_map, Nat.zero_add, Nat.add_zero, List.map_append]
    rw [List.take_append_of_le_length (by rw [List.length_map]; lia), show c + (la.length - c + d) = la.length + d by lia, List.drop_append, List.drop_eq_nil_of_le (by rw [List.length_map]; lia), List.nil_append, List.length_map, Nat.add_sub_cancel_left, List.map_take, List.map_drop]
  rcases Classical.em (la.length - c ≤ d) with hm | hm
  · rw [if_pos hm]
    refine .bind (mergeLo_ok O H (fun x hx => hla x (List.mem_of_mem_drop hx)) (fun x hx => hlb x (List.mem_of_mem_take hx)) hst (sa.sublist (List.drop_sublist _ _)) (sb.sublist (List.take_sublist _ _)) (fun x hx y hy => ix x (List.mem_of_mem_drop hx) y (List.mem_of_mem_take hy)) (by rw [List.length_drop]; lia) (by rw [List.length_take]; lia) h0' hz' fun r st' pr sg => ?_)
    refine .bind (KP.modify (.bind (KP.get (.pure ?_))))
    have hf : failedOf st' = none := sg.f
    show P (failedOf st').isNone _
    rw [hf]
    exact rest r st' pr sg
  · rw [if_neg hm]
    refine .bind (mergeHi_ok O H (fun x hx => hla x (List.mem_of_mem_drop hx)) (fun x hx => hlb x (List.mem_of_mem_take hx)) hst (sa.sublist (List.drop_sublist _ _)) (sb.sublist (List.take_sublist _ _)) (fun x hx y hy => ix x (List.mem_of_mem_drop hx) y (List.mem_of_mem_take hy)) (by rw [List.length_drop]; lia) (by rw [List.length_take]; lia) h0' hz' fun r st' pr sg => ?_)
    refine .bind (KP.modify (.bind (KP.get (.pure ?_))))
    have hf : failedOf st' = none := sg.f
    show P (failedOf st').isNone _
    rw [hf]
    exact rest r st' pr sg
end
end Mine


set_option maxHeartbeats 4000000

namespace Mine
open PySem PyProof.Rows
section
variable {prog : Program} {w : World} {A : Around} {E : Value → Shared → Prop} {I : Shared → Prop} {κ : SortKind} {it : Array Keyed} {lt : Nat → Nat → Bool} {N : Nat}
/- the state with the places p -/
noncomputable abbrev stP (κ : SortKind) (it : Array Keyed) (pend : Array (Nat × Nat × Nat)) (g : Nat) (p : Array Nat) : SortSt := SortSt.mk' κ (p.map (kas_item it)) pend g none
theorem KP.rev {pend : Array (Nat × Nat × Nat)} {g i j : Nat} {p : Array Nat} {P : Unit → SortSt → Prop} (h : P () (stP κ it pend g (kas_rev p i j))) : KP (model prog w) A E I (reverseSlice' i j) P (stP κ it pend g p) := by
  rw [reverseSlice'_eq]
  refine KP.modify ?_
  have e1 : mirror (p.map (kas_item it)) i j ((j - i) / 2) = (mirror p i j ((j - i) / 2)).map (kas_item it) := kas_swaps_map (kas_item it) (fun k => i + k) (fun k => j - 1 - k) _ p
  show P () (SortSt.mk' κ (mirror (p.map (kas_item it)) i j ((j - i) / 2)) pend g none)
  rw [e1]; exact h
theorem KP.move {pend : Array (Nat × Nat × Nat)} {g k l : Nat} {p : Array Nat} {P : Unit → SortSt → Prop} (h : P () (stP κ it pend g (bubble p k (k - l)))) : KP (model prog w) A E I (moveDown' k l) P (stP κ it pend g p) := by
  rw [moveDown'_eq]
  refine KP.modify ?_
  have e1 : bubble (p.map (kas_item it)) k (k - l) = (bubble p k (k - l)).map (kas_item it) := kas_swaps_map (kas_item it) (fun i => k - i) (fun i => k - i - 1) _ p
  show P () (SortSt.mk' κ (bubble (p.map (kas_item it)) k (k - l)) pend g none)
  rw [e1]; exact h
end
/- the places lo .. behind those of an earlier run -/
noncomputable def emb (lo : Nat) (pre : List Nat) (q : Array Nat) : Array Nat := pre.toArray ++ q.map (lo + ·)
theorem arr_ext {p q : Array Nat} (hs : p.size = q.size) (h : ∀ k, k < p.size → gp p k = gp q k) : p = q := by
  refine Array.ext hs fun i h1 h2 => ?_
  have := h i h1
  unfold gp at this
  rw [Array.getD_eq_getD_getElem?, Array.getD_eq_getD_getElem?, Array.getElem?_eq_getElem h1, Array.getElem?_eq_getElem h2] at this
  exact this
theorem emb_size (lo : Nat) (pre : List Nat) (q : Array Nat) : (emb lo pre q).size = pre.length + q.size := by unfold emb; simp
theorem emb_hi {lo : Nat} {pre : List Nat} {q : Array Nat} (hl : pre.length = lo) {i : Nat} (hi : i < q.size) : gp (emb lo pre q) (lo + i) = lo + gp q i := by
  unfold gp emb
  rw [Array.getD_eq_getD_getElem?, Array.getD_eq_getD_getElem?, Array.getElem?_append_right (by simp; lia)]
  simp [hl, hi]
theorem emb_lo {lo : Nat} {pre : List Nat} {q : Array Nat} (hl : pre.length = lo) {i : Nat} (hi : i < lo) : gp (emb lo pre q) i = pre.getD i 0 := by
  unfold gp emb
  rw [Array.getD_eq_getD_getElem?, Array.getElem?_append_left (by simp; lia)]
  simp
theorem emb_rev {lo : Nat} {pre : List Nat} {q : Array Nat} (hl : pre.length = lo) {i j : Nat} (hj : j ≤ q.size) : kas_rev (emb lo pre q) (lo + i) (lo + j) = emb lo pre (kas_rev q i j) := by
  refine arr_ext (by rw [kas_rev_size, emb_size, emb_size, kas_rev_size]) fun k hk => ?_
  rw [kas_rev_size, emb_size, hl] at hk
  rw [gp_rev (by rw [emb_size, hl]; exact Nat.add_le_add_left hj lo)]
  by_cases h : k < lo
  · rw [if_neg fun z => absurd (Nat.le_trans (Nat.le_add_right lo i) z.1) (Nat.not_le_of_lt h), emb_lo hl h, emb_lo hl h]
  · obtain ⟨m, rfl⟩ : ∃ m, k = lo + m := ⟨k - lo, (Nat.add_sub_of_le (Nat.le_of_not_lt h)).symm⟩
    have hm := Nat.lt_of_add_lt_add_left hk
    rw [emb_hi hl (show m < (kas_rev q i j).size by rw [kas_rev_size]; exact hm), gp_rev hj]
    clear hk h
    by_cases h2 : i ≤ m ∧ m < j
    · rw [if_pos ⟨Nat.add_le_add_left h2.1 lo, Nat.add_lt_add_left h2.2 lo⟩, if_pos h2, show lo + i + (lo + j) - 1 - (lo + m) = lo + (i + j - 1 - m) by lia, emb_hi hl (by lia)]
    · rw [if_neg fun z => h2 ⟨Nat.le_of_add_le_add_left z.1, Nat.lt_of_add_lt_add_left z.2⟩, if_neg h2, emb_hi hl hm]
theorem emb_bub {lo : Nat} {pre : List Nat} {q : Array Nat} (hl : pre.length = lo) {k d : Nat} (hk : k < q.size) (hd : d ≤ k) : bubble (emb lo pre q) (lo + k) d = emb lo pre (bubble q k d) := by
  refine arr_ext (by rw [bubble_size, emb_size, emb_size, bubble_size]) fun n hn => ?_
  rw [bubble_size, emb_size, hl] at hn
  rw [gp_bub (by rw [emb_size, hl]; exact Nat.add_lt_add_left hk lo) (Nat.le_trans hd (Nat.le_add_left k lo)), Nat.add_sub_assoc hd lo]
  by_cases h : n < lo
  · rw [if_neg fun z : n = lo + (k - d) => absurd (Nat.le_trans (Nat.le_add_right lo (k - d)) (Nat.le_of_eq z.symm)) (Nat.not_le_of_lt h), if_neg fun z => absurd (Nat.le_trans (Nat.le_add_right lo _) (Nat.le_of_lt z.1)) (Nat.not_le_of_lt h), emb_lo hl h, emb_lo hl h]
  · obtain ⟨m, rfl⟩ : ∃ m, n = lo + m := ⟨n - lo, (Nat.add_sub_of_le (Nat.le_of_not_lt h)).symm⟩
    have hm := Nat.lt_of_add_lt_add_left hn
    rw [emb_hi hl (show m < (bubble q k d).size by rw [bubble_size]; exact hm), gp_bub hk hd]
    by_cases h1 : m = k - d
    · rw [if_pos (by rw [h1]), if_pos h1, emb_hi hl hk]
    · rw [if_neg fun z => h1 (Nat.add_left_cancel z), if_neg h1]
      by_cases h2 : k - d < m ∧ m ≤ k
      · rw [if_pos ⟨Nat.add_lt_add_left h2.1 lo, Nat.add_le_add_left h2.2 lo⟩, if_pos h2, Nat.add_sub_assoc (Nat.lt_of_le_of_lt (Nat.zero_le _) h2.1) lo, emb_hi hl (Nat.lt_of_le_of_lt (Nat.sub_le m 1) (Nat.lt_of_le_of_lt h2.2 hk))]
      · rw [if_neg fun z => h2 ⟨Nat.lt_of_add_lt_add_left z.1, Nat.le_of_add_le_add_left z.2⟩, if_neg h2, emb_hi hl hm]
end Mine


set_option maxHeartbeats 4000000

namespace Mine
open PySem PyProof.Rows
end Mine


set_option maxHeartbeats 4000000

namespace Mine
open PySem PyProof.Rows
section
variable {M : Model} {A : Around} {E : Value → Shared → Prop} {I : Shared → Prop} {σ β : Type} {st : σ} {P : β → σ → Prop}
theorem KP.nil {b : β} {f : Nat → β → StateT σ Sem (ForInStep β)} (h : P b st) : KP M A E I (forIn ([] : List Nat) b f) P st := by rw [List.forIn_nil]; exact .pure h
theorem KP.cons {x : Nat} {l : List Nat} {b : β} {f : Nat → β → StateT σ Sem (ForInStep β)} (h : KP M A E I (f x b) (fun r st' => match r with | .done b' => P b' st' | .yield b' => KP M A E I (forIn l b' f) P st') st) : KP M A E I (forIn (x :: l) b f) P st := by
  rw [List.forIn_cons]
  refine .bind (h.mono fun r st' q => ?_)
  cases r with
  | done b' => exact .pure q
  | yield b' => exact q
theorem KP.ofRange {a b : Nat} {c : β} {f : Nat → β → StateT σ Sem (ForInStep β)} (h : KP M A E I (forIn (List.range' a (b - a)) c f) P st) : KP M A E I (forIn [a:b] c f) P st := fun s hs => kasC_range (h s hs)
end
theorem kpost_yes {lt : Nat → Nat → Bool} {N : Nat} {α : Type} {T₁ T₂ : KasT α} {P : α → Prop} (h : kpost lt N (if true = true then T₁ else T₂) P) : kpost lt N T₁ P := by rwa [if_pos rfl] at h
theorem kpost_no {lt : Nat → Nat → Bool} {N : Nat} {α : Type} {T₁ T₂ : KasT α} {P : α → Prop} (h : kpost lt N (if false = true then T₁ else T₂) P) : kpost lt N T₂ P := by rwa [if_neg (by simp)] at h
theorem kpost_of_bind {lt : Nat → Nat → Bool} {N : Nat} {α β : Type} {f : α → KasT β} {P : β → Prop} : ∀ {t : KasT α}, kpost lt N (t.bind f) P → kpost lt N t (fun a => kpost lt N (f a) P)
  | .ret a, h => h
  | .ask i j k, h => ⟨h.1, h.2.1, kpost_of_bind h.2.2⟩

noncomputable abbrev ltO (lt : Nat → Nat → Bool) (lo i j : Nat) : Bool := lt (lo + i) (lo + j)
noncomputable def ascB (lo : Nat) (_ : Nat) (s : AscSt) : StateT SortSt Sem (ForInStep AscSt) := do
  let x ← ltAt' (lo + s.snd) (lo + s.snd - 1)
  match x with
  | some smaller => if smaller = true then pure (ForInStep.done (none, s.snd)) else pure (ForInStep.yield (none, s.snd + 1))
  | _ => pure (ForInStep.done (some none, s.snd))
noncomputable def ascL (lo a nrem : Nat) : StateT SortSt Sem AscSt := forIn [a:nrem] ((none, a) : AscSt) (ascB lo)
noncomputable def tailL (lo n nrem : Nat) : StateT SortSt Sem (Option Nat) := do
  reverseSlice' lo (lo + n)
  let s ← ascL lo n nrem
  match s.fst with
  | some r => pure r
  | none => pure (some s.snd)
noncomputable def descB (lo : Nat) (_ : Nat) (s : DescSt) : StateT SortSt Sem (ForInStep DescSt) := do
  let x ← ltAt' (lo + s.snd.fst) (lo + s.snd.fst - 1)
  match x with
  | some smaller =>
    if smaller = true then
      if s.snd.snd > 0 then do
        reverseSlice' (lo + s.snd.fst - (s.snd.snd + 1)) (lo + s.snd.fst)
        pure (ForInStep.yield (none, s.snd.fst + 1, 0))
      else pure (ForInStep.yield (none, s.snd.fst + 1, 0))
    else do
      let x ← ltAt' (lo + s.snd.fst - 1) (lo + s.snd.fst)
      match x with
      | some larger =>
        if larger = true then pure (ForInStep.done (none, s.snd.fst, s.snd.snd))
        else pure (ForInStep.yield (none, s.snd.fst + 1, s.snd.snd + 1))
      | _ => pure (ForInStep.done (some none, s.snd.fst, s.snd.snd))
  | _ => pure (ForInStep.done (some none, s.snd.fst, s.snd.snd))
noncomputable def descL (lo n nrem : Nat) : StateT SortSt Sem DescSt := forIn [n:nrem] ((none, n, 0) : DescSt) (descB lo)
noncomputable def partL (lo n nrem : Nat) : StateT SortSt Sem (Option Nat) := do
  liftM (rule "list.sort.descending-run")
  let s ← descL lo (n + 1) nrem
  match s.fst with
  | some r => pure r
  | none =>
    if s.snd.snd > 0 then do
      reverseSlice' (lo + s.snd.fst - (s.snd.snd + 1)) (lo + s.snd.fst)
      tailL lo s.snd.fst nrem
    else tailL lo s.snd.fst nrem
theorem countL_eq (lo nrem : Nat) : countRun' lo nrem = (do
    let s ← ascL lo 1 nrem
    match s.fst with
    | some r => pure r
    | none =>
      if (s.snd == nrem) = true then pure (some s.snd)
      else if s.snd > 1 then do
        let x ← ltAt' lo (lo + s.snd - 1)
        match x with
        | some rose => if rose = true then pure (some s.snd) else do
            reverseSlice' lo (lo + s.snd)
            partL lo s.snd nrem
        | _ => pure none
      else partL lo s.snd nrem) := by
  rw [countRun'_eq]
  refine bind_eq rfl fun s => ?_
  obtain ⟨r, n⟩ := s
  cases r with
  | some r => rfl
  | none =>
    dsimp (config := {zeta := false, zetaHave := false}) only
    refine ite_eq rfl ?_
    extract_lets -underBinder +onlyGivenNames jp
    have hjp : ∀ u, jp u = partL lo n nrem := fun zz1 => by
      dsimp (config := {zeta := false, zetaHave := false}) only [jp]
      refine bind_eq rfl fun zz1 => bind_eq rfl fun s2 => ?_
      obtain ⟨r2, n2, q2⟩ := s2
      cases r2 with
      | some r2 => rfl
      | none =>
        dsimp (config := {zeta := false, zetaHave := false}) only
        extract_lets -underBinder +onlyGivenNames r1 s1 n1 e1
        dsimp (config := {zeta := false, zetaHave := false}) only [r1, s1, n1, e1]
        extract_lets -underBinder +onlyGivenNames jp2
        have hjp2 : ∀ u, jp2 u = tailL lo n2 nrem := fun zz1 => by
          dsimp (config := {zeta := false, zetaHave := false}) only [jp2]
          refine bind_eq rfl fun zz1 => bind_eq rfl fun s3 => ?_
          obtain ⟨r3, n3⟩ := s3
          cases r3 <;> rfl
        clear_value jp2
        exact ite_eq (bind_eq rfl fun zz1 => hjp2 _) (hjp2 _)
    clear_value jp
    refine ite_eq (bind_eq rfl fun x => ?_) (hjp _)
    cases x with
    | none => rfl
    | some rose => exact ite_eq rfl (bind_eq rfl fun zz1 => hjp _)

section
variable {prog : Program} {w : World} {A : Around} {E : Value → Shared → Prop} {I : Shared → Prop} {κ : SortKind} {it : Array Keyed} {lt : Nat → Nat → Bool} {N : Nat} {lo : Nat} {pre : List Nat} {m : Nat} {pend : Array (Nat × Nat × Nat)} {g : Nat}
noncomputable abbrev stE (κ : SortKind) (it : Array Keyed) (pend : Array (Nat × Nat × Nat)) (g lo : Nat) (pre : List Nat) (q : Array Nat) : SortSt := stP κ it pend g (emb lo pre q)
theorem KP.askE {i j a b : Nat} {q : Array Nat} {P : Option Bool → SortSt → Prop} (H : Asks prog w A I κ it lt N) (hl : pre.length = lo) (hM : lo + m ≤ N) (ha : a = lo + i) (hb : b = lo + j) (hi : i < q.size) (hj : j < q.size) (bi : gp q i < m) (bj : gp q j < m) (h : P (some (ltO lt lo (gp q i) (gp q j))) (stE κ it pend g lo pre q)) :
    KP (model prog w) A E I (ltAt' a b) P (stE κ it pend g lo pre q) := by
  subst ha; subst hb
  rw [ltAt'_eq]
  refine .bind (KP.get ?_)
  show KP (model prog w) A E I (do let x ← elem' ((emb lo pre q).map (kas_item it)) (lo + i); let y ← elem' ((emb lo pre q).map (kas_item it)) (lo + j); lt' x y) P _
  have e1 : (emb lo pre q).getD (lo + i) 0 = lo + gp q i := emb_hi hl hi
  have e2 : (emb lo pre q).getD (lo + j) 0 = lo + gp q j := emb_hi hl hj
  rw [elem_at (by rw [emb_size]; lia), elem_at (by rw [emb_size]; lia), e1, e2]
  exact .bind (.pure (.bind (.pure (KP.ask H (by lia) (by lia) rfl h))))
theorem KP.revE {i j a b : Nat} {q : Array Nat} {P : Unit → SortSt → Prop} (hl : pre.length = lo) (ha : a = lo + i) (hb : b = lo + j) (hj : j ≤ q.size) (h : P () (stE κ it pend g lo pre (kas_rev q i j))) : KP (model prog w) A E I (reverseSlice' a b) P (stE κ it pend g lo pre q) := by
  subst ha; subst hb
  refine KP.rev ?_
  rw [emb_rev hl hj]; exact h
theorem KP.moveE {i j : Nat} {q : Array Nat} {P : Unit → SortSt → Prop} (hl : pre.length = lo) (hi : i < q.size) (hj : j ≤ i) (h : P () (stE κ it pend g lo pre (bubble q i (i - j)))) : KP (model prog w) A E I (moveDown' (lo + i) (lo + j)) P (stE κ it pend g lo pre q) := by
  refine KP.move ?_
  rw [show lo + i - (lo + j) = i - j by lia, emb_bub hl hi (by lia)]; exact h
theorem ascL_ok {q : Array Nat} {a nrem : Nat} {G : Nat → Prop} {P : AscSt → SortSt → Prop} (H : Asks prog w A I κ it lt N) (hl : pre.length = lo) (hM : lo + m ≤ N) (h1 : 1 ≤ a) (ha : a ≤ nrem) (hz : nrem ≤ q.size)
    (hG : ∀ n, a ≤ n → n ≤ nrem → G n → P (none, n) (stE κ it pend g lo pre q)) (h : kpost (ltO lt lo) m (kas_asc q (nrem - a) a) G) : KP (model prog w) A E I (ascL lo a nrem) P (stE κ it pend g lo pre q) := by
  unfold ascL
  refine KP.ofRange ?_
  have go : ∀ (f : Nat) (l : List Nat) (n : Nat), l.length = f → a ≤ n → n + f ≤ nrem → kpost (ltO lt lo) m (kas_asc q f n) G → KP (model prog w) A E I (forIn l ((none, n) : AscSt) (ascB lo)) P (stE κ it pend g lo pre q) := by
    intro f
    induction f with
    | zero =>
      intro l n hll hn hf h
      cases l with
      | nil => exact KP.nil (hG n hn (by lia) h)
      | cons _ _ => simp at hll
    | succ f ih =>
      intro l n hll hn hf h
      cases l with
      | nil => simp at hll
      | cons x l =>
        obtain ⟨b1, b2, h'⟩ := h
        refine KP.cons (.bind (KP.askE (i := n) (j := n - 1) H hl hM rfl (by lia) (by lia) (by lia) b1 b2 ?_))
        have h'' : kpost (ltO lt lo) m (if ltO lt lo (gp q n) (gp q (n - 1)) = true then KasT.ret n else kas_asc q f (n + 1)) G := h'
        cases c : ltO lt lo (gp q n) (gp q (n - 1)) with
        | true => rw [c] at h''; exact .pure (hG n hn (by lia) (kpost_yes h''))
        | false => rw [c] at h''; exact .pure (ih l (n + 1) (by simpa using hll) (by lia) (by lia) (kpost_no h''))
  exact go (nrem - a) _ a (List.length_range' ..) (Nat.le_refl _) (by lia) h
theorem tailL_ok {q : Array Nat} {n nrem : Nat} {G : Nat × Array Nat → Prop} {P : Option Nat → SortSt → Prop} (H : Asks prog w A I κ it lt N) (hl : pre.length = lo) (hM : lo + m ≤ N) (h1 : 1 ≤ n) (hn : n ≤ nrem) (hz : nrem ≤ q.size)
    (hG : ∀ k q', 1 ≤ k → k ≤ nrem → q'.size = q.size → G (k, q') → P (some k) (stE κ it pend g lo pre q')) (h : kpost (ltO lt lo) m (kas_tail3 n nrem q) G) : KP (model prog w) A E I (tailL lo n nrem) P (stE κ it pend g lo pre q) := by
  unfold tailL
  unfold kas_tail3 at h
  refine .bind (KP.revE (i := 0) (j := n) hl rfl rfl (by lia) (.bind (ascL_ok H hl hM h1 hn (by rw [kas_rev_size]; exact hz) (fun k hk1 hk2 hk => ?_) (kpost_of_bind h))))
  exact .pure (hG k _ (by lia) hk2 (kas_rev_size _ _) hk)
theorem descL_ok {q : Array Nat} {a nrem : Nat} {G : Array Nat × Nat × Nat → Prop} {P : DescSt → SortSt → Prop} (H : Asks prog w A I κ it lt N) (hl : pre.length = lo) (hM : lo + m ≤ N) (h1 : 1 ≤ a) (ha : a ≤ nrem) (hz : nrem ≤ q.size)
    (hG : ∀ q' n x, q'.size = q.size → a ≤ n → n ≤ nrem → x + 1 ≤ n → G (q', n, x) → P (none, n, x) (stE κ it pend g lo pre q')) (h : kpost (ltO lt lo) m (kas_desc (nrem - a) q a 0) G) : KP (model prog w) A E I (descL lo a nrem) P (stE κ it pend g lo pre q) := by
  unfold descL
  refine KP.ofRange ?_
  have go : ∀ (f : Nat) (l : List Nat) (q' : Array Nat) (n x : Nat), l.length = f → q'.size = q.size → a ≤ n → n + f ≤ nrem → x + 1 ≤ n → kpost (ltO lt lo) m (kas_desc f q' n x) G → KP (model prog w) A E I (forIn l ((none, n, x) : DescSt) (descB lo)) P (stE κ it pend g lo pre q') := by
    intro f
    induction f with
    | zero =>
      intro l q' n x hll hs hn hf hx h
      cases l with
      | nil => exact KP.nil (hG q' n x hs hn (by lia) hx h)
      | cons _ _ => simp at hll
    | succ f ih =>
      intro l q' n x hll hs hn hf hx h
      cases l with
      | nil => simp at hll
      | cons y l =>
        have hll' : l.length = f := by simpa using hll
        obtain ⟨b1, b2, h'⟩ := h
        refine KP.cons (.bind (KP.askE (i := n) (j := n - 1) H hl hM rfl (by show lo + n - 1 = _; lia) (by lia) (by lia) b1 b2 ?_))
        have h'' : kpost (ltO lt lo) m (if ltO lt lo (gp q' n) (gp q' (n - 1)) = true then (if x > 0 then kas_desc f (kas_rev q' (n - (x + 1)) n) (n + 1) 0 else kas_desc f q' (n + 1) 0) else KasT.ask (q'.getD (n - 1) 0) (q'.getD n 0) fun d => if d = true then KasT.ret (q', n, x) else kas_desc f q' (n + 1) (x + 1)) G := h'
        cases c : ltO lt lo (gp q' n) (gp q' (n - 1)) with
        | true =>
          rw [c] at h''
          have h3 := kpost_yes h''
          show KP _ _ _ _ (if x > 0 then do
              reverseSlice' (lo + n - (x + 1)) (lo + n)
              pure (ForInStep.yield (none, n + 1, 0))
            else pure (ForInStep.yield (none, n + 1, 0))) _ _
          by_cases e : x > 0
          · rw [if_pos e] at h3 ⊢
            exact .bind (KP.revE (i := n - (x + 1)) (j := n) hl (by lia) rfl (by lia) (.pure (ih l _ (n + 1) 0 hll' ((kas_rev_size _ _).trans hs) (by lia) (by lia) (by lia) h3)))
          · rw [if_neg e] at h3 ⊢
            exact .pure (ih l q' (n + 1) 0 hll' hs (by lia) (by lia) (by lia) h3)
        | false =>
          rw [c] at h''
          obtain ⟨_, _, h3⟩ := kpost_no h''
          refine .bind (KP.askE (i := n - 1) (j := n) H hl hM (by show lo + n - 1 = _; lia) rfl (by lia) (by lia) b2 b1 ?_)
          have h4 : kpost (ltO lt lo) m (if ltO lt lo (gp q' (n - 1)) (gp q' n) = true then KasT.ret (q', n, x) else kas_desc f q' (n + 1) (x + 1)) G := h3
          cases d : ltO lt lo (gp q' (n - 1)) (gp q' n) with
          | true => rw [d] at h4; exact .pure (hG q' n x hs hn (by lia) hx (kpost_yes h4))
          | false => rw [d] at h4; exact .pure (ih l q' (n + 1) (x + 1) hll' hs (by lia) (by lia) (by lia) (kpost_no h4))
  exact go (nrem - a) _ q a 0 (List.length_range' ..) rfl (Nat.le_refl _) (by lia) (by lia) h
end
end Mine


set_option maxHeartbeats 4000000

namespace Mine
open PySem PyProof.Rows
section
variable {prog : Program} {w : World} {A : Around} {E : Value → Shared → Prop} {I : Shared → Prop} {κ : SortKind} {it : Array Keyed} {lt : Nat → Nat → Bool} {N : Nat} {lo : Nat} {pre : List Nat} {m : Nat} {pend : Array (Nat × Nat × Nat)} {g : Nat}
theorem partL_ok {q : Array Nat} {n nrem : Nat} {G : Nat × Array Nat → Prop} {P : Option Nat → SortSt → Prop} (H : Asks prog w A I κ it lt N) (hl : pre.length = lo) (hM : lo + m ≤ N) (h1 : 1 ≤ n) (hn : n + 1 ≤ nrem) (hz : nrem ≤ q.size)
    (hG : ∀ k q', 1 ≤ k → k ≤ nrem → q'.size = q.size → G (k, q') → P (some k) (stE κ it pend g lo pre q')) (h : kpost (ltO lt lo) m (kas_descPart n nrem q) G) : KP (model prog w) A E I (partL lo n nrem) P (stE κ it pend g lo pre q) := by
  unfold partL
  unfold kas_descPart at h
  refine .bind (KP.rule (.bind (descL_ok H hl hM (by lia) hn hz (fun q' k x hs hk1 hk2 hxk hx => ?_) (kpost_of_bind h))))
  have hx' : kpost (ltO lt lo) m (if x > 0 then kas_tail3 k nrem (kas_rev q' (k - (x + 1)) k) else kas_tail3 k nrem q') G := hx
  show KP _ _ _ _ (if x > 0 then do
      reverseSlice' (lo + k - (x + 1)) (lo + k)
      tailL lo k nrem
    else tailL lo k nrem) _ _
  by_cases e : x > 0
  · rw [if_pos e] at hx' ⊢
    exact .bind (KP.revE (i := k - (x + 1)) (j := k) hl (by lia) rfl (by lia) (tailL_ok H hl hM (by lia) hk2 (by rw [kas_rev_size, hs]; exact hz) (fun k' q'' a1 a2 a3 a4 => hG k' q'' a1 a2 (a3.trans ((kas_rev_size _ _).trans hs)) a4) hx'))
  · rw [if_neg e] at hx' ⊢
    exact tailL_ok H hl hM (by lia) hk2 (by rw [hs]; exact hz) (fun k' q'' a1 a2 a3 a4 => hG k' q'' a1 a2 (a3.trans hs) a4) hx'
theorem countE_ok {q : Array Nat} {nrem : Nat} {G : Nat × Array Nat → Prop} {P : Option Nat → SortSt → Prop} (H : Asks prog w A I κ it lt N) (hl : pre.length = lo) (hM : lo + m ≤ N) (h1 : 1 ≤ nrem) (hz : nrem ≤ q.size)
    (hG : ∀ k q', 1 ≤ k → k ≤ nrem → q'.size = q.size → G (k, q') → P (some k) (stE κ it pend g lo pre q')) (h : kpost (ltO lt lo) m (kas_count nrem q) G) : KP (model prog w) A E I (countRun' lo nrem) P (stE κ it pend g lo pre q) := by
  rw [countL_eq]
  unfold kas_count at h
  refine .bind (ascL_ok H hl hM (Nat.le_refl _) h1 hz (fun n hn1 hn2 hn => ?_) (kpost_of_bind h))
  dsimp only
  by_cases e1 : (n == nrem) = true
  · rw [if_pos e1] at hn ⊢
    exact .pure (hG n q hn1 hn2 rfl hn)
  · rw [if_neg e1] at hn ⊢
    have hlt : n + 1 ≤ nrem := by
      have : n ≠ nrem := fun z => e1 (by rw [z]; exact beq_self_eq_true _)
      lia
    by_cases e2 : n > 1
    · rw [if_pos e2] at hn ⊢
      obtain ⟨b1, b2, hn'⟩ := hn
      refine .bind (KP.askE (i := 0) (j := n - 1) H hl hM rfl (by lia) (by lia) (by lia) b1 b2 ?_)
      have h'' : kpost (ltO lt lo) m (if ltO lt lo (gp q 0) (gp q (n - 1)) = true then KasT.ret (n, q) else kas_descPart n nrem (kas_rev q 0 n)) G := hn'
      cases c : ltO lt lo (gp q 0) (gp q (n - 1)) with
      | true => rw [c] at h''; exact .pure (hG n q hn1 hn2 rfl (kpost_yes h''))
      | false =>
        rw [c] at h''
        exact .bind (KP.revE (i := 0) (j := n) hl rfl rfl (by lia) (partL_ok H hl hM hn1 hlt (by rw [kas_rev_size]; exact hz) (fun k' q'' a1 a2 a3 a4 => hG k' q'' a1 a2 (a3.trans (kas_rev_size _ _)) a4) (kpost_no h'')))
    · rw [if_neg e2] at hn ⊢
      exact partL_ok H hl hM hn1 hlt hz hG hn
theorem binE_ok {q : Array Nat} {n ok : Nat} {G : Array Nat → Prop} {P : Bool → SortSt → Prop} (H : Asks prog w A I κ it lt N) (hl : pre.length = lo) (hM : lo + m ≤ N) (hz : n ≤ q.size) (ho : max ok 1 ≤ n)
    (hG : ∀ q', q'.size = q.size → G q' → P true (stE κ it pend g lo pre q')) (h : kpost (ltO lt lo) m (kas_bin (n - max ok 1) q (max ok 1)) G) : KP (model prog w) A E I (binarySort' lo n ok) P (stE κ it pend g lo pre q) := by
  rw [binarySort'_eq]
  refine .bind (KP.ofRange ?_)
  have len : ∀ (f k : Nat) (q' : Array Nat), k + f = n → q'.size = q.size → kpost (ltO lt lo) m (kas_bin f q' k) G →
      ∀ {R : Option Bool × Unit → SortSt → Prop} {body : Nat → Option Bool × Unit → StateT SortSt Sem (ForInStep (Option Bool × Unit))}, (∀ q'', q''.size = q.size → G q'' → R (none, ()) (stE κ it pend g lo pre q'')) →
      (∀ (k : Nat) (q' : Array Nat) (R' : ForInStep (Option Bool × Unit) → SortSt → Prop), k < n → q'.size = q.size →
        kpost (ltO lt lo) m (kas_place q' k k 0 k) (fun l => l ≤ k → R' (.yield (none, ())) (stE κ it pend g lo pre (bubble q' k (k - l)))) → KP (model prog w) A E I (body k (none, ())) R' (stE κ it pend g lo pre q')) →
      KP (model prog w) A E I (forIn (List.range' k f) (none, ()) body) R (stE κ it pend g lo pre q') := by
    intro f
    induction f with
    | zero => intro k q' hk hs h R body hR hb; exact KP.nil (hR q' hs h)
    | succ f ih =>
      intro k q' hk hs h R body hR hb
      rw [List.range'_succ]
      have h' : kpost (ltO lt lo) m ((kas_place q' k k 0 k).bind fun l => kas_bin f (bubble q' k (k - l)) (k + 1)) G := h
      exact KP.cons (hb k q' _ (by lia) hs (kpost_mono (fun l hl' (_ : l ≤ k) => ih (k + 1) _ (show k + 1 + f = n by lia) ((bubble_size _ _ _).trans hs) hl' hR hb) (kpost_of_bind h')))
  refine len (n - max ok 1) (max ok 1) q (by lia) rfl h (fun q' hs hg => .pure (hG q' hs hg)) fun k q' R' hk hs hpl => ?_
  refine .bind (KP.ofRange ?_)
  have place : ∀ (f l r : Nat) (ls : List Nat), ls.length = f → r ≤ k → l ≤ k → ∀ {G' : Nat → Prop} {R : Option Bool × Nat × Nat → SortSt → Prop} {body : Nat → Option Bool × Nat × Nat → StateT SortSt Sem (ForInStep (Option Bool × Nat × Nat))}, kpost (ltO lt lo) m (kas_place q' k f l r) G' →
      (∀ l r, l ≤ k → G' l → R (none, l, r) (stE κ it pend g lo pre q')) →
      (∀ x l r (R' : ForInStep (Option Bool × Nat × Nat) → SortSt → Prop), l ≥ r → R' (.done (none, l, r)) (stE κ it pend g lo pre q') → KP (model prog w) A E I (body x (none, l, r)) R' (stE κ it pend g lo pre q')) →
      (∀ x l r (R' : ForInStep (Option Bool × Nat × Nat) → SortSt → Prop), l < r → r ≤ k → gp q' k < m → gp q' ((l + r) / 2) < m →
        R' (.yield (if ltO lt lo (gp q' k) (gp q' ((l + r) / 2)) = true then (none, l, (l + r) / 2) else (none, (l + r) / 2 + 1, r))) (stE κ it pend g lo pre q') → KP (model prog w) A E I (body x (none, l, r)) R' (stE κ it pend g lo pre q')) →
      KP (model prog w) A E I (forIn ls (none, l, r) body) R (stE κ it pend g lo pre q') := by
    intro f
    induction f with
    | zero =>
      intro l r ls hls hr hl' G' R body h hR hb1 hb2
      cases ls with
      | nil => exact KP.nil (hR l r hl' h)
      | cons _ _ => simp at hls
    | succ f ih =>
      intro l r ls hls hr hl' G' R body h hR hb1 hb2
      cases ls with
      | nil => simp at hls
      | cons x ls =>
        have hls' : ls.length = f := by simpa using hls
        unfold kas_place at h
        by_cases hlr : l ≥ r
        · rw [if_pos hlr] at h
          exact KP.cons (hb1 x l r _ hlr (hR l r hl' h))
        · rw [if_neg hlr] at h
          obtain ⟨b1, b2, h'⟩ := h
          refine KP.cons (hb2 x l r _ (by lia) hr b1 b2 ?_)
          have h'' : kpost (ltO lt lo) m (if ltO lt lo (gp q' k) (gp q' ((l + r) / 2)) = true then kas_place q' k f l ((l + r) / 2) else kas_place q' k f ((l + r) / 2 + 1) r) G' := h'
          cases c : ltO lt lo (gp q' k) (gp q' ((l + r) / 2)) with
          | true => rw [c] at h''; exact ih l ((l + r) / 2) ls hls' (by lia) hl' (kpost_yes h'') hR hb1 hb2
          | false => rw [c] at h''; exact ih ((l + r) / 2 + 1) r ls hls' hr (by lia) (kpost_no h'') hR hb1 hb2
  refine place k 0 k _ (by rw [List.length_range']; lia) (Nat.le_refl _) (Nat.zero_le _) hpl (fun l r hlk hR => ?_) (fun x l r R'' hge hR'' => ?_) fun x l r R'' hlt hr b1 b2 hc => ?_
  · show KP _ _ _ _ (do moveDown' (lo + k) (lo + l); pure (ForInStep.yield (none, ()))) _ _
    exact .bind (KP.moveE hl (by lia) hlk (.pure (hR hlk)))
  · dsimp only
    rw [if_pos hge]
    exact .pure hR''
  · dsimp only
    rw [if_neg (by lia)]
    refine .bind (KP.askE (i := k) (j := (l + r) / 2) H hl hM rfl rfl (by lia) (by lia) b1 b2 ?_)
    cases c : ltO lt lo (gp q' k) (gp q' ((l + r) / 2)) with
    | true => rw [c, if_pos rfl] at hc; exact .pure hc
    | false => rw [c, if_neg (by simp)] at hc; exact .pure hc
end
end Mine


set_option maxHeartbeats 4000000

namespace Mine
open PySem PyProof.Rows
theorem SOrd.off {lt : Nat → Nat → Bool} (O : SOrd lt) (lo : Nat) : SOrd (ltO lt lo) := ⟨fun a => O.irr _, fun a b c => O.tr _ _ _, fun a b c => O.neg _ _ _⟩
theorem emb_nil (q : Array Nat) : emb 0 [] q = q := by unfold emb; simp
/- the first run apart from the rest -/
theorem emb_split {N n : Nat} {p : Array Nat} (h : Iv N n p) (hn : n ≤ N) : p = emb n (p.toList.take n) (List.toArray (List.range (N - n))) := by
  have hs := h.size
  have hl : (p.toList.take n).length = n := by rw [List.length_take, Array.length_toList]; lia
  refine arr_ext (by rw [emb_size, hl]; simp; lia) fun k hk => ?_
  by_cases e : k < n
  · rw [emb_lo hl e, List.getD_eq_getElem?_getD, List.getElem?_take_of_lt e]
    simp [gp]
  · obtain ⟨j, rfl⟩ : ∃ j, k = n + j := ⟨k - n, by lia⟩
    have hj : j < N - n := by lia
    rw [emb_hi hl (by simp; exact hj), h.tail _ (by lia) (by lia)]
    have : gp (List.toArray (List.range (N - n))) j = j := by simp [gp, hj]
    rw [this]
section
variable {prog : Program} {w : World} {A : Around} {E : Value → Shared → Prop} {I : Shared → Prop} {κ : SortKind} {it : Array Keyed} {lt : Nat → Nat → Bool}
/- behind a run -/
noncomputable def runC (size lo n : Nat) : StateT SortSt Sem (ForInStep (Option Unit × Nat)) := do
  let st ← get
  match (pendingOf st).back? with
  | some (s1, n1, _) => do
    let s ← forIn [:size] ((none, ()) : Option Unit × Unit) fun zz1 zz2 => do
      let st ← get
      match if (pendingOf st).size > 1 then (pendingOf st)[(pendingOf st).size - 2]? else none with
      | some (_, _, older) =>
        if older ≤ power' size (2 * s1 + n1) (2 * s1 + n1 + n1 + n) size then pure (ForInStep.done (none, ()))
        else do
          let b ← mergeAt' ((pendingOf st).size - 2)
          if (!b) = true then pure (ForInStep.done (some (), ())) else pure (ForInStep.yield (none, ()))
      | _ => pure (ForInStep.done (none, ()))
    match s.fst with
    | some r => pure (ForInStep.done (some r, lo))
    | none => do
      modify fun s => setPending s ((pendingOf s).modify ((pendingOf s).size - 1) fun x => (x.fst, x.2.fst, power' size (2 * s1 + n1) (2 * s1 + n1 + n1 + n) size))
      modify fun s => setPending s ((pendingOf s).push (lo, n, 0))
      pure (ForInStep.yield (none, lo + n))
  | _ => do
    modify fun s => setPending s ((pendingOf s).push (lo, n, 0))
    pure (ForInStep.yield (none, lo + n))
noncomputable def runB (size minrun : Nat) (_ : Nat) (s : Option Unit × Nat) : StateT SortSt Sem (ForInStep (Option Unit × Nat)) :=
  if s.snd ≥ size then pure (ForInStep.done (none, s.snd)) else do
    let x ← countRun' s.snd (size - s.snd)
    match x with
    | some found =>
      if found < minrun then do
        liftM (rule "list.sort.binary-insertion")
        let b ← binarySort' s.snd (min (size - s.snd) minrun) found
        if (!b) = true then pure (ForInStep.done (some (), s.snd)) else runC size s.snd (min (size - s.snd) minrun)
      else runC size s.snd found
    | _ => pure (ForInStep.done (some (), s.snd))
noncomputable def runF (_ : Nat) (_ : Option Unit × Unit) : StateT SortSt Sem (ForInStep (Option Unit × Unit)) := do
  let st ← get
  if (pendingOf st).size ≤ 1 then pure (ForInStep.done (none, ())) else do
    let b ← mergeAt' (if Option.any (fun x => decide (x < (pendingOf st)[(pendingOf st).size - 2 + 1]?.elim 0 fun x => x.snd.fst)) (if (pendingOf st).size - 2 > 0 then Option.map (fun x => x.snd.fst) (pendingOf st)[(pendingOf st).size - 2 - 1]? else none) = true then (pendingOf st).size - 2 - 1 else (pendingOf st).size - 2)
    if (!b) = true then pure (ForInStep.done (some (), ())) else pure (ForInStep.yield (none, ()))
theorem sortRuns_eq : sortRuns' = (do
    let st ← get
    let s ← forIn [:(arrOf st).size] ((none, 0) : Option Unit × Nat) (runB (arrOf st).size (minRun' (arrOf st).size (arrOf st).size 0))
    match s.fst with
    | some r => pure r
    | none => do
      let s ← forIn [:(arrOf st).size] ((none, ()) : Option Unit × Unit) runF
      match s.fst with
      | some r => pure r
      | none => pure ()) := by
  rw [sortRuns'_eq]
  refine bind_eq rfl fun st => bind_eq (forIn_eq fun x s => ?_) fun s => ?_
  · obtain ⟨r, lo⟩ := s
    refine ite_eq rfl (bind_eq rfl fun y => ?_)
    cases y with
    | none => rfl
    | some found =>
      dsimp (config := {zeta := false, zetaHave := false}) only
      extract_lets -underBinder +onlyGivenNames n jp
      have hjp : ∀ u n, jp u n = runC (arrOf st).size lo n := fun zz1 n => by
        dsimp (config := {zeta := false, zetaHave := false}) only [jp]
        refine bind_eq rfl fun st2 => ?_
        generalize (pendingOf st2).back? = o
        cases o with
        | none => rfl
        | some v =>
          obtain ⟨s1, n1, z⟩ := v
          refine bind_eq rfl fun s => ?_
          obtain ⟨r, u⟩ := s
          cases r <;> rfl
      clear_value jp
      exact ite_eq (bind_eq rfl fun zz1 => bind_eq rfl fun b => ite_eq rfl (hjp _ _)) (hjp _ _)
  · obtain ⟨r, lo⟩ := s
    cases r with
    | some r => rfl
    | none =>
      refine bind_eq rfl fun s => ?_
      obtain ⟨r, u⟩ := s
      cases r <;> rfl
end
end Mine


set_option maxHeartbeats 4000000

namespace Mine
open PySem PyProof.Rows
theorem ltO_zero (lt : Nat → Nat → Bool) : ltO lt 0 = lt := by
  funext a b; show lt (0 + a) (0 + b) = _; rw [Nat.zero_add, Nat.zero_add]
section
variable {prog : Program} {w : World} {A : Around} {E : Value → Shared → Prop} {I : Shared → Prop} {κ : SortKind} {it : Array Keyed} {lt : Nat → Nat → Bool} {g : Nat} {p : Array Nat} {lo n : Nat} {P : ForInStep (Option Unit × Nat) → SortSt → Prop}
theorem runC_nil (h : P (.yield (none, lo + n)) (stP κ it #[(lo, n, 0)] g p)) : KP (model prog w) A E I (runC 64 lo n) P (stP κ it #[] g p) := by
  unfold runC
  refine .bind (KP.get ?_)
  show KP _ _ _ _ (do
    modify fun s => setPending s ((pendingOf s).push (lo, n, 0))
    pure (ForInStep.yield (none, lo + n))) _ _
  exact .bind (KP.modify (.pure h))
theorem runC_one {a b : Nat} (h : ∀ pw, P (.yield (none, lo + n)) (stP κ it #[(a, b, pw), (lo, n, 0)] g p)) : KP (model prog w) A E I (runC 64 lo n) P (stP κ it #[(a, b, 0)] g p) := by
  unfold runC
  refine .bind (KP.get ?_)
  show KP _ _ _ _ (do
    let s ← forIn [:64] ((none, ()) : Option Unit × Unit) _
    match s.fst with
    | some r => pure (ForInStep.done (some r, lo))
    | none => do
      modify _
      modify fun s => setPending s ((pendingOf s).push (lo, n, 0))
      pure (ForInStep.yield (none, lo + n))) _ _
  refine .bind (KP.ofRange ?_)
  show KP _ _ _ _ (forIn (0 :: List.range' 1 63) _ _) _ _
  refine KP.cons (.bind (KP.get ?_))
  refine .pure ?_
  dsimp only
  exact .bind (KP.modify (.bind (KP.modify (.pure (h _)))))
/- a turn of the loop over runs: the run is counted, and made longer by insertion -/
theorem runB_ok {pre : List Nat} {pend : Array (Nat × Nat × Nat)} {x m : Nat} (O : SOrd lt) (H : Asks prog w A I κ it lt 64) (hl : pre.length = lo) (hm : lo + m = 64) (h1 : 1 ≤ m)
    (h : ∀ n q, n = m ∨ (32 ≤ n ∧ n ≤ m) → Iv m n q → Sup (ltO lt lo) q n → KP (model prog w) A E I (runC 64 lo n) P (stE κ it pend g lo pre q)) :
    KP (model prog w) A E I (runB 64 32 x (none, lo)) P (stE κ it pend g lo pre (List.toArray (List.range m))) := by
  have em : 64 - lo = m := by lia
  have O' := O.off lo
  have sz : (List.toArray (List.range m)).size = m := by simp
  have iv0 := (Iv.start m).resolve_right (by lia)
  show KP _ _ _ _ (if lo ≥ 64 then _ else _) _ _
  rw [if_neg (by lia)]
  show KP _ _ _ _ (do
    let x ← countRun' lo (64 - lo)
    match x with
    | some found =>
      if found < 32 then do
        liftM (rule "list.sort.binary-insertion")
        let b ← binarySort' lo (min (64 - lo) 32) found
        if (!b) = true then pure (ForInStep.done (some (), lo)) else runC 64 lo (min (64 - lo) 32)
      else runC 64 lo found
    | _ => pure (ForInStep.done (some (), lo))) _ _
  rw [em]
  refine .bind (countE_ok (m := m) (G := fun r => (1 ≤ r.1 ∧ r.1 ≤ m) ∧ Iv m r.1 r.2 ∧ Sup (ltO lt lo) r.2 r.1) H hl (by lia) h1 (by rw [sz]; exact Nat.le_refl _) (fun k q k1 k2 hs hG => ?_) (count_ok O' h1 iv0 fun k q k1 k2 iv su => ⟨⟨k1, k2⟩, iv, su⟩))
  obtain ⟨_, iv, su⟩ := hG
  dsimp only at iv su ⊢
  by_cases e : k < 32
  · rw [if_pos e]
    refine .bind (KP.rule ?_)
    by_cases e2 : k ≤ min m 32
    · have ek : max k 1 = k := by lia
      refine .bind (binE_ok (m := m) (G := fun q => Iv m (min m 32) q ∧ Sup (ltO lt lo) q (min m 32)) H hl (by lia) (by rw [hs, sz]; lia) (by lia) (fun q' hs' hG => ?_) ?_)
      · rw [if_neg (by simp)]
        exact h _ q' (by lia) hG.1 hG.2
      · rw [ek]
        exact bin_to O' (by lia) _ q k (by lia) iv su fun q' a b => ⟨a, b⟩
    · lia
  · rw [if_neg e]
    exact h k q (by lia) iv su
end
/- behind the runs: one run, or two that are still to be merged -/
noncomputable def Done64 (lt : Nat → Nat → Bool) (κ : SortKind) (it : Array Keyed) (st : SortSt) : Prop :=
  (∃ ro, arrOf st = tI it ro ∧ ro.Perm (List.range 64) ∧ ro.Pairwise (Bf lt) ∧ failedOf st = none ∧ (pendingOf st).size ≤ 1) ∨
  (∃ la lb pw pw2 g, st = SortSt.mk' κ (tI it (la ++ lb)) #[(0, la.length, pw), (la.length, lb.length, pw2)] g none ∧ (la ++ lb).Perm (List.range 64) ∧ la.Pairwise (Bf lt) ∧ lb.Pairwise (Bf lt) ∧ (∀ x ∈ la, ∀ y ∈ lb, x < y) ∧ 0 < la.length ∧ 0 < lb.length)
theorem sup_pairwise {lt : Nat → Nat → Bool} {N n : Nat} {p : Array Nat} (iv : Iv N n p) (hn : n ≤ N) (su : Sup lt p n) : (p.toList.take n).Pairwise (Bf lt) := by
  refine List.pairwise_iff_getElem.mpr fun i j hi hj hij => ?_
  have hs := iv.size
  rw [List.length_take, Array.length_toList] at hi hj
  have := su i j hij (by lia)
  have ei : gp p i = (p.toList.take n)[i] := by simp [gp, show i < p.size by lia]
  have ej : gp p j = (p.toList.take n)[j] := by simp [gp, show j < p.size by lia]
  rw [ei, ej] at this
  exact this
theorem emb_toList (lo : Nat) (pre : List Nat) (q : Array Nat) : (emb lo pre q).toList = pre ++ q.toList.map (lo + ·) := by unfold emb; simp
theorem emb_perm {lo : Nat} {pre : List Nat} {q r : Array Nat} (h : q.Perm r) : (emb lo pre q).Perm (emb lo pre r) := by
  rw [Array.perm_iff_toList_perm, emb_toList, emb_toList]
  exact List.Perm.append_left _ ((Array.perm_iff_toList_perm.mp h).map _)
section
variable {prog : Program} {w : World} {A : Around} {E : Value → Shared → Prop} {I : Shared → Prop} {κ : SortKind} {it : Array Keyed} {lt : Nat → Nat → Bool}
/- the sort of 64 -/
theorem runs64 {P : Unit → SortSt → Prop} (O : SOrd lt) (H : Asks prog w A I κ it lt 64) (q : ∀ (ro : List Nat) (st' : SortSt), ro.Perm (List.range 64) → ro.Pairwise (Bf lt) → arrOf st' = tI it ro → failedOf st' = none → P () st') :
    KP (model prog w) A E I sortRuns' P (stP κ it #[] 7 (List.toArray (List.range 64))) := by
  have hsz : (arrOf (stP κ it #[] 7 (List.toArray (List.range 64)))).size = 64 := by
    show ((List.toArray (List.range 64)).map (kas_item it)).size = _
    rw [Array.size_map]; rfl
  have hmr : minRun' 64 64 0 = 32 := rfl
  rw [sortRuns_eq]
  refine .bind (KP.get ?_)
  rw [hsz, hmr]
  refine .bind (KP.mono (P' := fun r st' => r = (none, 64) ∧ Done64 lt κ it st') (KP.ofRange ?loop) fun r st' hr => ?post)
  case post =>
    obtain ⟨rfl, hD⟩ := hr
    dsimp only
    refine .bind (KP.mono (P' := fun r st' => r = (none, ()) ∧ P () st') (KP.ofRange ?_) fun r st' hr => ?_)
    · show KP _ _ _ _ (forIn (0 :: 1 :: List.range' 2 62) _ _) _ _
      refine KP.cons ?_
      rcases hD with ⟨ro, h1, h2, h3, h4, h5⟩ | ⟨la, lb, pw, pw2, g, rfl, h2, h3, h4, h5, h6, h7⟩
      · unfold runF
        refine .bind (KP.get ?_)
        rw [if_pos h5]
        exact .pure ⟨rfl, q ro _ h2 h3 h1 h4⟩
      · have lt64 : ∀ x ∈ la ++ lb, x < 64 := fun x hx => by have := h2.mem_iff.mp hx; rwa [List.mem_range] at this
        unfold runF
        refine .bind (KP.get ?_)
        show KP _ _ _ _ (do
          let b ← mergeAt' 0
          if (!b) = true then pure (ForInStep.done (some (), ())) else pure (ForInStep.yield (none, ()))) _ _
        refine .bind (mergeAt_ok O H (fun x hx => lt64 x (List.mem_append_left _ hx)) (fun x hx => lt64 x (List.mem_append_right _ hx)) h3 h4 h5 h6 h7 fun ro st' a1 a2 a3 a4 a5 a6 => ?_)
        rw [if_neg (by simp)]
        refine .pure ?_
        dsimp only
        refine KP.cons ?_
        refine .bind (KP.get ?_)
        rw [if_pos (by rw [a5]; exact Nat.le_refl _)]
        exact .pure ⟨rfl, q ro _ (a1.trans h2) a2 a4 a6⟩
    · obtain ⟨rfl, h⟩ := hr
      exact .pure h
  case loop =>
    show KP _ _ _ _ (forIn (0 :: 1 :: 2 :: List.range' 3 61) _ _) _ _
    have e : stP κ it #[] 7 (List.toArray (List.range 64)) = stE κ it #[] 7 0 [] (List.toArray (List.range 64)) := by
      show stP κ it #[] 7 (List.toArray (List.range 64)) = stP κ it #[] 7 (emb 0 [] (List.toArray (List.range 64)))
      rw [emb_nil]
    have stop : ∀ (x : Nat) (l : List Nat) (P' : Option Unit × Nat → SortSt → Prop) (st : SortSt), P' (none, 64) st → KP (model prog w) A E I (forIn (x :: l) ((none, 64) : Option Unit × Nat) (runB 64 32)) P' st := fun x l P' st h => by
      refine KP.cons ?_
      show KP _ _ _ _ (if 64 ≥ 64 then _ else _) _ _
      rw [if_pos (Nat.le_refl _)]
      exact .pure h
    rw [e]
    refine KP.cons (runB_ok (pre := []) (lo := 0) (m := 64) O H rfl rfl (by lia) fun n p hn iv su => ?_)
    rw [ltO_zero] at su
    have hn' : n ≤ 64 := by lia
    show KP _ _ _ _ _ _ (stP κ it #[] 7 (emb 0 [] p))
    rw [emb_nil]
    refine runC_nil ?_
    dsimp only
    rw [Nat.zero_add]
    have hs := iv.size
    by_cases e64 : n = 64
    · subst e64
      refine stop _ _ _ _ ⟨rfl, .inl ⟨p.toList, ?_, by simpa using Array.perm_iff_toList_perm.mp iv.perm, ?_, rfl, Nat.le_refl _⟩⟩
      · show p.map (kas_item it) = _
        unfold tI; simp
      · have := sup_pairwise iv (Nat.le_refl _) su
        rwa [List.take_of_length_le (by rw [Array.length_toList]; lia)] at this
    · have hl : (p.toList.take n).length = n := by rw [List.length_take, Array.length_toList]; lia
      have sp := emb_split iv hn'
      refine KP.cons ?_
      have e2 : stP κ it #[(0, n, 0)] 7 p = stE κ it #[(0, n, 0)] 7 n (p.toList.take n) (List.toArray (List.range (64 - n))) := by
        show stP κ it #[(0, n, 0)] 7 p = stP κ it #[(0, n, 0)] 7 (emb n (p.toList.take n) (List.toArray (List.range (64 - n))))
        rw [← sp]
      rw [e2]
      refine runB_ok (m := 64 - n) O H hl (by lia) (by lia) fun k q' hk iv' su' => ?_
      obtain rfl : k = 64 - n := by lia
      refine runC_one fun pw => ?_
      dsimp only
      rw [show n + (64 - n) = 64 by lia]
      have hs' := iv'.size
      have hpm : (emb n (p.toList.take n) q').toList.Perm (List.range 64) := by
        have h1 := emb_perm (lo := n) (pre := p.toList.take n) iv'.perm
        rw [← sp] at h1
        simpa using Array.perm_iff_toList_perm.mp (h1.trans iv.perm)
      refine stop _ _ _ _ ⟨rfl, .inr ⟨p.toList.take n, q'.toList.map (n + ·), pw, 0, 7, ?_, ?_, sup_pairwise iv hn' su, ?_, ?_, by lia, by simp; lia⟩⟩
      · have ea : (emb n (p.toList.take n) q').map (kas_item it) = tI it (p.toList.take n ++ q'.toList.map (n + ·)) := by
          unfold tI; rw [← emb_toList]
        have el : (q'.toList.map (n + ·)).length = 64 - n := by simp [hs']
        show SortSt.mk' κ ((emb n (p.toList.take n) q').map (kas_item it)) _ _ _ = _
        rw [ea, hl, el]
      · rw [← emb_toList]; exact hpm
      · rw [List.pairwise_map]
        have := sup_pairwise iv' (Nat.le_refl _) su'
        rw [List.take_of_length_le (by rw [Array.length_toList]; lia)] at this
        refine this.imp fun {a b} h => ?_
        rcases h with h | ⟨h, l⟩
        · exact .inl h
        · exact .inr ⟨h, by lia⟩
      · intro x hx y hy
        obtain ⟨i, hi, rfl⟩ := List.getElem_of_mem hx
        obtain ⟨z, _, rfl⟩ := List.mem_map.mp hy
        rw [List.length_take, Array.length_toList] at hi
        have := iv.low i (by lia)
        have ei : gp p i = (p.toList.take n)[i] := by simp [gp, show i < p.size by lia]
        rw [ei] at this
        lia
end
end Mine


set_option maxHeartbeats 4000000

namespace Mine
open PySem PyProof.Rows
section
variable {prog : Program} {w : World} {A : Around} {E : Value → Shared → Prop} {s : Shared}
/- the sort's run, up to 64 items -/
theorem srun_ok {κ : SortKind} {ks vs : List Value} {lt : Nat → Nat → Bool} {I : Shared → Prop} {Q : SortSt → Shared → Prop} (hl : ks.length = vs.length) (h2 : 2 ≤ vs.length) (h64 : vs.length ≤ 64) (O : SOrd lt)
    (hc : ∀ i j s C, i < vs.length → j < vs.length → I s → (∀ s', I s' → C (lt i j) s') → kas_ask prog w A κ ks i j C s) (hs : I s)
    (hQ : ∀ (p : Array Nat) st' s', p.toList.Perm (List.range vs.length) → p.toList.Pairwise (Bf lt) → arrOf st' = p.map (kas_item (ks.toArray.zip vs.toArray)) → failedOf st' = none → I s' → Q st' s') :
    wpAny (model prog w) A ((sortRuns').run (SortSt.mk' κ (ks.toArray.zip vs.toArray) #[] 7 none)) (fun r s' => Q r.2 s') E s := by
  by_cases h : vs.length < 64
  · have run : (kas_sort vs.length).kasWp (kas_ask prog w A κ ks) (fun p s' => (p.toList.Perm (List.range vs.length) ∧ p.toList.Pairwise (Bf lt)) ∧ I s') s :=
      kas_of_post (lt := lt) (N := vs.length) (I := I) (P := fun p => p.toList.Perm (List.range vs.length) ∧ p.toList.Pairwise (Bf lt)) hc (sort_ok O (by lia) fun p a b => ⟨a, b⟩) hs fun p s' a b => ⟨a, b⟩
    exact kat_run hl h2 h (fun p st' s' zz1 a2 a3 a4 => hQ p st' s' a4.1.1 a4.1.2 a2 a3 a4.2) run
  · have e : vs.length = 64 := by lia
    have H : Asks prog w A I κ (ks.toArray.zip vs.toArray) lt 64 := fun i j s C hi hj hI hC => by
      have := hc i j s C (by lia) (by lia) hI hC
      rw [kat_ask_eq hl] at this
      exact this
    have est : SortSt.mk' κ (ks.toArray.zip vs.toArray) #[] 7 none = stP κ (ks.toArray.zip vs.toArray) #[] 7 (List.toArray (List.range 64)) := by
      have e2 := kas_range (ks.toArray.zip vs.toArray)
      rw [show (ks.toArray.zip vs.toArray).size = 64 by simp [hl, e]] at e2
      show SortSt.mk' κ (ks.toArray.zip vs.toArray) #[] 7 none = SortSt.mk' κ ((List.toArray (List.range 64)).map (kas_item (ks.toArray.zip vs.toArray))) #[] 7 none
      rw [e2]
    rw [est]
    refine wpAny_mono (runs64 (E := E) (P := fun zz1 st' => ∃ ro : List Nat, ro.Perm (List.range 64) ∧ ro.Pairwise (Bf lt) ∧ arrOf st' = tI (ks.toArray.zip vs.toArray) ro ∧ failedOf st' = none) O H (fun ro st' a b c d => ⟨ro, a, b, c, d⟩) s hs) (fun r s' q => ?_) fun zz1 zz2 x => x
    obtain ⟨⟨ro, a, b, c, d⟩, hI⟩ := q
    exact hQ ro.toArray _ s' (by rw [e]; exact a) b c d hI
end
end Mine


set_option maxHeartbeats 4000000

namespace Mine
open PySem PyProof.Rows

/- all kept but T -/
structure KBs (T : List Addr) (s s' : Shared) : Prop where
  keep : ∀ b o, b ∉ T → s.heap.get? b = some o → s'.heap.get? b = some o
  gens : s'.gens = s.gens
  os : s'.os = s.os
theorem KBs.trans {T : List Addr} {s s' s'' : Shared} (x : KBs T s s') (y : KBs T s' s'') : KBs T s s'' := ⟨fun b o n e => y.keep b o n (x.keep b o n e), y.gens.trans x.gens, y.os.trans x.os⟩
theorem KBs.of {T : List Addr} {s s' : Shared} (y : SExt [] s s') : KBs T s s' := ⟨fun b o n e => y.ext.strict _ _ e, y.gens, y.os⟩
theorem KBs.ext {T : List Addr} {s s' s'' : Shared} (x : KBs T s s') (y : SExt [] s' s'') : KBs T s s'' := x.trans (.of y)
theorem KBs.more {T T' : List Addr} {s s' : Shared} (x : KBs T s s') (h : ∀ a ∈ T, a ∈ T') : KBs T' s s' := ⟨fun b o n e => x.keep b o (fun z => n (h b z)) e, x.gens, x.os⟩
theorem KBs.from {T : List Addr} {s₀ s s' : Shared} (x : KBs T s s') (y : SExt [] s₀ s) (ha : ∀ a ∈ T, s₀.heap.get? a = Option.none) : SExt [] s₀ s' :=
  ⟨.of_keep fun b o e => x.keep b o (fun z => by rw [ha b z] at e; cases e) (y.ext.strict _ _ e), x.gens.trans y.gens, x.os.trans y.os⟩

noncomputable abbrev ltRev (b : Bool) (n : Nat) (lt : Nat → Nat → Bool) (i j : Nat) : Bool := if b = true then lt (n - 1 - i) (n - 1 - j) else lt i j
noncomputable abbrev ltTo (b : Bool) (lt : Nat → Nat → Bool) (i j : Nat) : Bool := if b = true then lt j i else lt i j
theorem SOrd.rev {lt : Nat → Nat → Bool} (O : SOrd lt) (b : Bool) (n : Nat) : SOrd (ltRev b n lt) := by
  cases b with
  | false => exact ⟨fun a => O.irr a, fun a b c => O.tr a b c, fun a b c => O.neg a b c⟩
  | true => exact ⟨fun a => O.irr _, fun a b c => O.tr _ _ _, fun a b c => O.neg _ _ _⟩
noncomputable abbrev outP (b : Bool) (n : Nat) (p : List Nat) : List Nat := if b = true then (p.map fun i => n - 1 - i).reverse else p
theorem outP_perm {b : Bool} {n : Nat} {p : List Nat} (h : p.Perm (List.range n)) : (outP b n p).Perm (List.range n) := by
  cases b with
  | false => exact h
  | true =>
    refine (List.reverse_perm _).trans ((h.map _).trans ?_)
    have e : (List.range n).map (fun i => n - 1 - i) = (List.range n).reverse := by
      apply List.ext_getElem
      · simp
      · intro i h1 h2; simp
    rw [e]; exact List.reverse_perm _
theorem outP_sorted {b : Bool} {n : Nat} {lt : Nat → Nat → Bool} {p : List Nat} (hp : p.Perm (List.range n)) (h : p.Pairwise (Bf (ltRev b n lt))) : (outP b n p).Pairwise (Bf (ltTo b lt)) := by
  cases b with
  | false => exact h
  | true =>
    show ((p.map fun i => n - 1 - i).reverse).Pairwise _
    rw [List.pairwise_reverse, List.pairwise_map]
    refine List.Pairwise.imp_of_mem (fun {x y} hx hy hxy => ?_) h
    have h1 : x < n := by have := hp.mem_iff.mp hx; rwa [List.mem_range] at this
    have h2 : y < n := by have := hp.mem_iff.mp hy; rwa [List.mem_range] at this
    rcases hxy with z | ⟨z, l⟩
    · exact .inl z
    · exact .inr ⟨z, by lia⟩
theorem katRev_getD {b : Bool} {vs : List Value} {i : Nat} (hi : i < vs.length) : (katRev b vs).getD i Value.none = vs.getD (if b = true then vs.length - 1 - i else i) Value.none := by
  cases b with
  | false => rfl
  | true =>
    show (vs.reverse).getD i Value.none = vs.getD (vs.length - 1 - i) Value.none
    rw [List.getD_eq_getElem?_getD, List.getD_eq_getElem?_getD, List.getElem?_reverse hi]
theorem katRev_out {b : Bool} {vs : List Value} {p : List Nat} (hp : ∀ i ∈ p, i < vs.length) : katRev b (p.map fun i => (katRev b vs).getD i Value.none) = (outP b vs.length p).map fun i => vs.getD i Value.none := by
  have e : (p.map fun i => (katRev b vs).getD i Value.none) = p.map fun i => vs.getD (if b = true then vs.length - 1 - i else i) Value.none :=
    List.map_congr_left fun i hi => katRev_getD (hp i hi)
  rw [e]
  cases b with
  | false => rfl
  | true =>
    show (p.map _).reverse = ((p.map _).reverse).map _
    rw [List.map_reverse, List.map_map]; rfl

section
variable {prog : Program} {w : World} {A : Around} {E : Value → Shared → Prop} {s : Shared}
/- behind the keys -/
theorem kend_tree {a c : Addr} {vs ks : List Value} {e e1 : Nat} {b : Bool} {P : PySem.Fin → Shared → Prop} {lt : Nat → Nat → Bool} {κ : SortKind} (O : SOrd lt) (hac : a ≠ c)
    (hc : s.heap.get? c = some (seqObj "list" (List.toArray ks) e)) (ho : s.heap.get? a = some (seqObj "list" #[] e1)) (hl : ks.length = vs.length) (h64 : vs.length ≤ 64)
    (kind : 2 ≤ vs.length → wpAny (model prog w) A (keyKind' ks.toArray) (fun κ' s'' => κ' = κ ∧ SExt [] s s'') (fun zz1 zz2 => False) s)
    (ask : ∀ i j s' C, i < vs.length → j < vs.length → SExt [] s s' → (∀ s'', SExt [] s' s'' → C (lt i j) s'') → kas_ask prog w A κ ks i j C s')
    (h : ∀ (p : List Nat) s', p.Perm (List.range vs.length) → p.Pairwise (Bf (ltTo b lt)) → KBs [a, c] s s' → (∃ x, s'.heap.get? a = some (seqObj "list" (List.toArray (p.map fun i => vs.getD i Value.none)) x)) → P (.done (.ret .none)) s') :
    wpAny (model prog w) A (ksk_end a b vs.toArray e1 (.ref c) (List.toArray ks)) P E s := by
  have fin : ∀ (s' : Shared) (p : List Nat), p.Perm (List.range vs.length) → p.Pairwise (Bf (ltRev b vs.length lt)) → SExt [] s s' → ∀ (st : SortSt), failedOf st = none → (arrOf st).map (·.2) = List.toArray (p.map fun i => (katRev b vs).getD i Value.none) →
      wpAny (model prog w) A (ksk_tail a b e1 (.ref c) st) P E s' := by
    intro s' p hp hs k st hf hout
    have hm : ∀ i ∈ p, i < vs.length := fun i hi => by have := hp.mem_iff.mp hi; rwa [List.mem_range] at this
    have hcc := k.ext.strict _ _ hc
    have hoo := k.ext.strict _ _ ho
    have s1 := Heap.SameBut.update s'.heap c (Obj.mapSeq fun zz1 => (#[] : Array Value))
    have na1 : (s'.heap.update c (Obj.mapSeq fun zz1 => (#[] : Array Value))).get? a = some (seqObj "list" #[] e1) := (s1.2 a hac).trans hoo
    have s2 := Heap.SameBut.update (s'.heap.update c (Obj.mapSeq fun zz1 => (#[] : Array Value))) a (Obj.mapSeq fun zz1 => List.toArray ((outP b vs.length p).map fun i => vs.getD i Value.none))
    obtain ⟨c2, hc2⟩ : ∃ c2, ((s'.heap.update c (Obj.mapSeq fun zz1 => (#[] : Array Value))).update a (Obj.mapSeq fun zz1 => List.toArray ((outP b vs.length p).map fun i => vs.getD i Value.none))).get? a = some (seqObj "list" (List.toArray ((outP b vs.length p).map fun i => vs.getD i Value.none)) c2) :=
      ⟨_, get?_update_seq na1 fun zz1 => List.toArray ((outP b vs.length p).map fun i => vs.getD i Value.none)⟩
    have hsz : (List.toArray ((outP b vs.length p).map fun i => vs.getD i Value.none)).size = vs.length := by
      rw [List.size_toArray, List.length_map, (outP_perm (b := b) hp).length_eq, List.length_range]
    unfold ksk_tail
    try dsimp only
    rw [hout, kat_outs, katRev_out hm]
    refine wpAny_bind (listUpdate_at hcc rfl ?_ (by rw [List.size_toArray, sizeLine_eq]; lia) (Nat.zero_le _))
    refine wpAny_bind (wpAny_letGo ?_)
    refine wpAny_bind (seqEpoch_at na1 rfl ?_)
    refine wpAny_bind (listUpdate_at na1 rfl ?_ (Nat.zero_le _) (Nat.le_trans (Nat.le_of_eq hsz) (by rw [sizeLine_eq]; lia)))
    rw [hf]
    simp only [bne_self_eq_false, Bool.false_eq_true, if_false]
    refine wpAny_pure (h _ _ (outP_perm hp) (outP_sorted hp hs) ⟨fun x o n ex => ?_, k.gens, k.os⟩ ⟨c2, hc2⟩)
    exact s2.extBut _ _ (fun z => n (by rw [z]; exact .head _)) (s1.extBut _ _ (fun z => n (by rw [z]; exact .tail _ (.head _))) (k.ext.strict _ _ ex))
  have step : ∀ t : Sem PySem.Fin, wpAny (model prog w) A t P E s → wpAny (model prog w) A (if b = true then (do let _ ← rule "list.sort.reverse"; t) else t) P E s := by
    intro t ht
    split
    · exact wpAny_bind (wpAny_rule ht)
    · exact ht
  have hlr : (katRev b ks).length = (katRev b vs).length := by rw [kat_len, kat_len, hl]
  unfold ksk_end
  try dsimp only
  refine step _ ?_
  rw [kat_pairs b hl]
  by_cases h2 : vs.toArray.size < 2
  · rw [if_pos h2, if_pos h2]
    refine wpAny_bind (wpAny_pure ?_)
    rw [StateT.run_pure]
    refine wpAny_bind (wpAny_pure ?_)
    rw [List.size_toArray] at h2
    refine fin s (List.range vs.length) (.refl _) (bf_small h2) (.refl _ _) _ rfl ?_
    apply Array.toList_inj.mp
    show (((katRev b ks).toArray.zip (katRev b vs).toArray).map (·.2)).toList = (List.range vs.length).map fun i => (katRev b vs).getD i Value.none
    apply List.ext_getElem
    · simp [kat_len, hl]
    · intro i h1 h3
      simp [kat_len] at h1
      have h4 : i < (katRev b vs).length := by rw [kat_len]; lia
      simp [h4]
  · have h2' : 2 ≤ vs.length := by rw [List.size_toArray] at h2; lia
    rw [if_neg h2, if_neg h2]
    refine wpAny_bind (wpAny_mono (kind h2') (fun κ' s0 hk => ?_) fun zz1 zz2 x => x.elim)
    obtain ⟨rfl, kx⟩ := hk
    refine wpAny_bind (wpAny_mono (srun_ok (lt := ltRev b vs.length lt) (I := fun s' => SExt [] s s') (Q := fun st' s' => ∃ p : Array Nat, arrOf st' = p.map (kas_item ((katRev b ks).toArray.zip (katRev b vs).toArray)) ∧ failedOf st' = none ∧ (p.toList.Perm (List.range vs.length) ∧ p.toList.Pairwise (Bf (ltRev b vs.length lt))) ∧ SExt [] s s')
      hlr (by rw [kat_len]; exact h2') (by rw [kat_len]; exact h64) (O.rev b _) (fun i j s' C hi hj hI hC => ?_) kx fun p st' s' a1 a2 a3 a4 a5 => ⟨p, a3, a4, ⟨by rw [kat_len] at a1; exact a1, a2⟩, a5⟩) ?_ fun zz1 zz2 e => e)
    · rw [kat_len] at hi hj
      have e1 := katRev_getD (b := b) (vs := ks) (i := i) (by lia)
      have e2 := katRev_getD (b := b) (vs := ks) (i := j) (by lia)
      unfold kas_ask
      rw [e1, e2, hl]
      have z : ltRev b vs.length lt i j = lt (if b = true then vs.length - 1 - i else i) (if b = true then vs.length - 1 - j else j) := by cases b <;> rfl
      refine ask (if b = true then vs.length - 1 - i else i) (if b = true then vs.length - 1 - j else j) s' C (by split <;> lia) (by split <;> lia) hI fun s'' k => ?_
      rw [← z]; exact hC s'' (hI.trans k)
    rintro ⟨⟨⟩, st'⟩ s' ⟨p, har, hf, ⟨hp, hs⟩, kx'⟩
    exact fin s' p.toList hp hs kx' st' hf (kat_snds hlr har)
/- list.sort(key=f) -/
theorem lsortK_tree {a : Addr} {vs : List Value} {n : Nat} {b : Bool} {f : Value} {P : PySem.Fin → Shared → Prop} {lt : Nat → Nat → Bool} {κ : SortKind} {KR : Addr → Nat → Value → Shared → Prop} (O : SOrd lt) (ho : s.heap.get? a = some (seqObj "list" vs.toArray n)) (h64 : vs.length ≤ 64)
    (keep : ∀ c i k s' s'', KR c i k s' → KBs [c] s' s'' → KR c i k s'')
    (key : ∀ (c : Addr) s', s.heap.get? c = Option.none → c ≠ a → KBs [a, c] s s' → (∃ o, s'.heap.get? a = some o) → (∃ o, s'.heap.get? c = some o) → ∀ i v C, vs[i]? = some v → (∀ k s'', KR c i k s'' → SExt [] s' s'' → C k s'') → wpAny (model prog w) A (call f [v]) C (fun zz1 zz2 => False) s')
    (kind : 2 ≤ vs.length → ∀ (c : Addr) (ks : List Value) s', s.heap.get? c = Option.none → KBs [a, c] s s' → (∃ o, s'.heap.get? a = some o) → (∃ o, s'.heap.get? c = some o) → ks.length = vs.length → (∀ i k, ks[i]? = some k → KR c i k s') → wpAny (model prog w) A (keyKind' ks.toArray) (fun κ' s'' => κ' = κ ∧ SExt [] s' s'') (fun zz1 zz2 => False) s')
    (ask : ∀ (c : Addr) (ks : List Value) s', s.heap.get? c = Option.none → KBs [a, c] s s' → (∃ o, s'.heap.get? a = some o) → (∃ o, s'.heap.get? c = some o) → ks.length = vs.length → (∀ i k, ks[i]? = some k → KR c i k s') → ∀ i j C, i < vs.length → j < vs.length → (∀ s'', SExt [] s' s'' → C (lt i j) s'') → kas_ask prog w A κ ks i j C s')
    (h : ∀ (p : List Nat) s', p.Perm (List.range vs.length) → p.Pairwise (Bf (ltTo b lt)) → (∀ x o, x ≠ a → s.heap.get? x = some o → s'.heap.get? x = some o) → s'.gens = s.gens → s'.os = s.os → (∃ x, s'.heap.get? a = some (seqObj "list" (List.toArray (p.map fun i => vs.getD i Value.none)) x)) → P (.done (.ret .none)) s') :
    wpAny (model prog w) A (ksk_tree a f b) P E s := by
  have ha : a < s.heap.objs.size := Heap.lt_size ho
  have s1 := Heap.SameBut.update s.heap a (Obj.mapSeq fun zz1 => (#[] : Array Value))
  obtain ⟨e1, ho1⟩ : ∃ e1, (s.heap.update a (Obj.mapSeq fun zz1 => (#[] : Array Value))).get? a = some (seqObj "list" #[] e1) := ⟨_, get?_update_seq ho fun zz1 => #[]⟩
  have hkS : ((s.heap.update a (Obj.mapSeq fun zz1 => (#[] : Array Value))).push (seqObj "tuple" vs.toArray 0)).objs.size = s.heap.objs.size + 1 := by rw [size_push', Heap.size_update]
  have hcf : s.heap.get? (s.heap.objs.size + 1) = Option.none := by
    cases q : s.heap.get? (s.heap.objs.size + 1) with
    | none => rfl
    | some o => exact absurd (Heap.lt_size q) (Nat.not_lt.mpr (Nat.le_succ _))
  have hca : s.heap.objs.size + 1 ≠ a := Nat.ne_of_gt (Nat.lt_succ_of_lt ha)
  have hcc : (((s.heap.update a (Obj.mapSeq fun zz1 => (#[] : Array Value))).push (seqObj "tuple" vs.toArray 0)).push (seqObj "list" #[] 0)).get? (s.heap.objs.size + 1) = some (seqObj "list" #[] 0) := by
    rw [← hkS]; exact Heap.get?_push_size _ rfl
  have k1 : ∀ b o, b ≠ a → s.heap.get? b = some o → (((s.heap.update a (Obj.mapSeq fun zz1 => (#[] : Array Value))).push (seqObj "tuple" vs.toArray 0)).push (seqObj "list" #[] 0)).get? b = some o := fun b o n e => Heap.get?_push_of_some _ (Heap.get?_push_of_some _ (s1.extBut _ _ n e))
  unfold ksk_tree
  refine wpAny_bind (listItems_at ho rfl ?_)
  refine wpAny_bind (listUpdate_at ho rfl ?_ (by rw [List.size_toArray, sizeLine_eq]; lia) (Nat.zero_le _))
  refine wpAny_bind (seqEpoch_at ho1 rfl ?_)
  refine wpAny_bind (wpAny_newTuple ?_ (by show vs.length ≤ _; rw [sizeLine_eq]; lia))
  refine wpAny_bind (wpAny_newList ?_ (Nat.zero_le _))
  refine wpAny_holding ?_
  have ho2 : (((s.heap.update a (Obj.mapSeq fun zz1 => (#[] : Array Value))).push (seqObj "tuple" vs.toArray 0)).push (seqObj "list" #[] 0)).get? a = some (seqObj "list" #[] e1) := Heap.get?_push_of_some _ (Heap.get?_push_of_some _ ho1)
  show wpAny (model prog w) A (ksk_rest a f b vs.toArray e1 (.ref ((s.heap.update a (Obj.mapSeq fun zz1 => (#[] : Array Value))).push (seqObj "tuple" vs.toArray 0)).objs.size)) P E { s with heap := ((s.heap.update a (Obj.mapSeq fun zz1 => (#[] : Array Value))).push (seqObj "tuple" vs.toArray 0)).push (seqObj "list" #[] 0) }
  rw [hkS]
  have kb0 : KBs [a, s.heap.objs.size + 1] s { s with heap := ((s.heap.update a (Obj.mapSeq fun zz1 => (#[] : Array Value))).push (seqObj "tuple" vs.toArray 0)).push (seqObj "list" #[] 0) } := ⟨fun x o n e => k1 x o (fun z => n (by rw [z]; exact .head _)) e, rfl, rfl⟩
  obtain ⟨sA, hsA⟩ : ∃ sA, sA = ({ s with heap := ((s.heap.update a (Obj.mapSeq fun zz1 => (#[] : Array Value))).push (seqObj "tuple" vs.toArray 0)).push (seqObj "list" #[] 0) } : Shared) := ⟨_, rfl⟩
  rw [← hsA] at kb0 ⊢
  have ho3 : sA.heap.get? a = some (seqObj "list" #[] e1) := by rw [hsA]; exact ho2
  have hc3 : sA.heap.get? (s.heap.objs.size + 1) = some (seqObj "list" #[] 0) := by rw [hsA]; exact hcc
  generalize s.heap.objs.size + 1 = c at *
  clear ho2 hcc k1 ho1 s1 hkS hsA
  unfold ksk_rest
  refine wpAny_bind (wpAny_rule ?_)
  first
    | rw [List.forIn_toArray]
    | (rw [← Array.forIn_toList]; simp only [List.toList_toArray])
    | rw [← Array.forIn_toList]
  refine wpAny_bind (ksk_fold (fun i s' => ∃ ks e, s'.heap.get? c = some (seqObj "list" (List.toArray ks) e) ∧ s'.heap.get? a = some (seqObj "list" #[] e1) ∧ ks.length = i ∧ (∀ (j : Nat) (k : Value), ks[j]? = some k → KR c j k s') ∧ KBs [a, c] s s') vs 0 sA ⟨[], 0, hc3, ho3, rfl, fun j k e => by simp at e, kb0⟩ ?step ?done)
  case step =>
    rintro j x s' hx ⟨ks, e, hks, hoo, hlk, hr, kb⟩
    rw [Nat.zero_add] at hlk
    have hj : j < vs.length := (List.getElem?_eq_some_iff.mp hx).1
    refine wpAny_bind (wpAny_attempt (wpAny_mono (key c s' hcf hca kb ⟨_, hoo⟩ ⟨_, hks⟩ j x (fun k s'' => KR c j k s'' ∧ SExt [] s' s'') hx fun k s'' a b => ⟨a, b⟩) (fun k s'' hk => ?_) fun zz1 zz2 hF => hF.elim))
    obtain ⟨rk, kx⟩ := hk
    have hks2 := kx.ext.strict _ _ hks
    have hoo2 := kx.ext.strict _ _ hoo
    have s2 := Heap.SameBut.update s''.heap c (Obj.mapSeq (·.push k))
    have ea : (List.toArray ks).push k = List.toArray (ks ++ [k]) := by simp
    obtain ⟨c2, hc2⟩ : ∃ c2, (s''.heap.update c (Obj.mapSeq (·.push k))).get? c = some (seqObj "list" (List.toArray (ks ++ [k])) c2) := ⟨_, by rw [← ea]; exact get?_update_seq hks2 (·.push k)⟩
    have kc : KBs [c] s'' { s'' with heap := s''.heap.update c (Obj.mapSeq (·.push k)) } := ⟨fun y o n ey => s2.extBut _ _ (fun z => n (by rw [z]; exact .head _)) ey, rfl, rfl⟩
    try dsimp only
    refine wpAny_bind (listUpdate_at hks2 rfl ?_ (by rw [List.size_toArray, sizeLine_eq]; lia) (Nat.le_trans (Nat.le_of_eq (Array.size_push ..)) (by rw [List.size_toArray, sizeLine_eq]; lia)))
    refine wpAny_pure ⟨rfl, ks ++ [k], c2, hc2, (s2.2 a hca.symm).trans hoo2, by rw [List.length_append, List.length_singleton, hlk, Nat.zero_add], fun i q hq => ?_, (kb.ext kx).trans (kc.more fun y hy => .tail _ hy)⟩
    rcases Nat.lt_or_ge i ks.length with hi | hi
    · rw [List.getElem?_append_left hi] at hq
      exact keep _ _ _ _ _ (keep _ _ _ _ _ (hr i q hq) (.of kx)) kc
    · rw [List.getElem?_append_right hi] at hq
      have hi' : i = j := by
        by_cases z : i - ks.length = 0
        · lia
        · obtain ⟨m, hm⟩ := Nat.exists_eq_succ_of_ne_zero z; rw [hm] at hq; simp at hq
      subst hi'
      rw [hlk, Nat.sub_self] at hq
      cases hq
      exact keep _ _ _ _ _ rk kc
  case done =>
    rintro s' ⟨ks, e, hks, hoo, hlk, hr, kb⟩
    rw [Nat.zero_add] at hlk
    try dsimp only
    refine wpAny_bind (listItems_at hks rfl ?_)
    refine kend_tree O hca.symm hks hoo hlk h64 (fun h2 => kind h2 c ks s' hcf kb ⟨_, hoo⟩ ⟨_, hks⟩ hlk hr) (fun i j s'' C hi hj k hC => ask c ks s'' hcf (kb.ext k) ⟨_, k.ext.strict _ _ hoo⟩ ⟨_, k.ext.strict _ _ hks⟩ hlk (fun i q hq => keep _ _ _ _ _ (hr i q hq) (.of k)) i j C hi hj hC) fun p s'' hp hs k hx => ?_
    refine h p s'' hp hs (fun y o n ey => ?_) (k.gens.trans kb.gens) (k.os.trans kb.os) hx
    have hyc : y ≠ c := fun z => by rw [z, hcf] at ey; cases ey
    have hn : y ∉ [a, c] := by simp [n, hyc]
    exact k.keep _ _ hn (kb.keep _ _ hn ey)
/- sorted(x, key=f) -/
theorem sortedK_tree {l : Addr} {vs : List Value} {b : Bool} {f : Value} {kw : List (Str × Value)} {Q : Value → Shared → Prop} {lt : Nat → Nat → Bool} {κ : SortKind} {KR : Addr → Addr → Nat → Value → Shared → Prop} (O : SOrd lt) (hl : s.heap.IsList l vs.toArray) (h64 : vs.length ≤ 64)
    (ha1 : argsOk "sorted" ⟨[.ref l], kw⟩) (ha2 : ∀ x, argsOk "list.sort" ⟨[.ref x], kw⟩) (ht : ∀ x, Builtin.«list.sort» ⟨[.ref x], kw⟩ = ksk_tree x f b)
    (keep : ∀ a c i k s' s'', KR a c i k s' → KBs [c] s' s'' → KR a c i k s'')
    (key : ∀ (a c : Addr) s', s.heap.get? a = Option.none → s.heap.get? c = Option.none → c ≠ a → SExt [] s s' → (∃ o, s'.heap.get? a = some o) → (∃ o, s'.heap.get? c = some o) → ∀ i v C, vs[i]? = some v → (∀ k s'', KR a c i k s'' → SExt [] s' s'' → C k s'') → wpAny (model prog w) A.in1.in1 (call f [v]) C (fun zz1 zz2 => False) s')
    (kind : 2 ≤ vs.length → ∀ (a c : Addr) (ks : List Value) s', s.heap.get? a = Option.none → s.heap.get? c = Option.none → SExt [] s s' → (∃ o, s'.heap.get? a = some o) → (∃ o, s'.heap.get? c = some o) → ks.length = vs.length → (∀ i k, ks[i]? = some k → KR a c i k s') → wpAny (model prog w) A.in1.in1 (keyKind' ks.toArray) (fun κ' s'' => κ' = κ ∧ SExt [] s' s'') (fun zz1 zz2 => False) s')
    (ask : ∀ (a c : Addr) (ks : List Value) s', s.heap.get? a = Option.none → s.heap.get? c = Option.none → SExt [] s s' → (∃ o, s'.heap.get? a = some o) → (∃ o, s'.heap.get? c = some o) → ks.length = vs.length → (∀ i k, ks[i]? = some k → KR a c i k s') → ∀ i j C, i < vs.length → j < vs.length → (∀ s'', SExt [] s' s'' → C (lt i j) s'') → kas_ask prog w A.in1.in1 κ ks i j C s')
    (h : ∀ D (p : List Nat) s', p.Perm (List.range vs.length) → p.Pairwise (Bf (ltTo b lt)) → SExt [] s s' → s.heap.get? D = Option.none → s'.heap.PlainList D (List.toArray (p.map fun i => vs.getD i Value.none)) → Q (.ref D) s') :
    wpAny (model prog w) A (call (.builtin "sorted") [.ref l] kw) Q E s := by
  refine call_function_entry_kw kind_sorted plain_sorted entry_sorted ha1 ?_
  unfold Builtin.«sorted»
  refine wpAny_bind (m := checkCount "sorted" 1 1 _) (wpAny_pure ?_)
  refine wpAny_bind (collect_list hl ?_ (by rw [sizeLine_eq]; lia))
  refine wpAny_bind (wpAny_newList ?_ (by rw [sizeLine_eq]; lia))
  have hsz : ((s.heap.push (seqObj "list" #[] 0)).update s.heap.objs.size (Obj.mapSeq (· ++ vs.toArray))).objs.size = s.heap.objs.size + 1 := by
    rw [Heap.size_update, size_push']
  have hoL : (((s.heap.push (seqObj "list" #[] 0)).update s.heap.objs.size (Obj.mapSeq (· ++ vs.toArray))).push (seqObj "list" vs.toArray 0)).get? (s.heap.objs.size + 1) = some (seqObj "list" vs.toArray 0) := by
    rw [← hsz]; exact Heap.get?_push_size _ rfl
  have keep' : ∀ b o, s.heap.get? b = some o → (((s.heap.push (seqObj "list" #[] 0)).update s.heap.objs.size (Obj.mapSeq (· ++ vs.toArray))).push (seqObj "list" vs.toArray 0)).get? b = some o := fun b o q => by
    have hlt : b < s.heap.objs.size := Heap.lt_size q
    rw [Heap.get?_push_ne _ _ _ (by rw [hsz]; exact Nat.ne_of_lt (Nat.lt_succ_of_lt hlt)), Heap.get?_update_ne _ _ _ _ (Nat.ne_of_lt hlt), Heap.get?_push_ne _ _ _ (Nat.ne_of_lt hlt)]
    exact q
  show wpAny _ _ _ _ _ { s with heap := ((s.heap.push (seqObj "list" #[] 0)).update s.heap.objs.size (Obj.mapSeq (· ++ vs.toArray))).push (seqObj "list" vs.toArray 0) }
  rw [hsz]
  have fr : s.heap.get? (s.heap.objs.size + 1) = Option.none := by
    cases q : s.heap.get? (s.heap.objs.size + 1) with
    | none => rfl
    | some o => exact absurd (Heap.lt_size q) (Nat.not_lt.mpr (Nat.le_succ _))
  have k0 : SExt [] s { s with heap := ((s.heap.push (seqObj "list" #[] 0)).update s.heap.objs.size (Obj.mapSeq (· ++ vs.toArray))).push (seqObj "list" vs.toArray 0) } := ⟨.of_keep keep', rfl, rfl⟩
  refine wpAny_bind (wpAny_holding (wpAny_call_entry_kw slot_list_sort ⟨_, hoL, rfl⟩ entry_list_sort ?body (ha2 _)))
  case body =>
    have ht' := ht (s.heap.objs.size + 1)
    show wpAny (model prog w) A.in1.in1 (Builtin.«list.sort» ⟨[.ref (s.heap.objs.size + 1)], kw⟩) _ _ _
    rw [ht']
    generalize hsA : ({ s with heap := ((s.heap.push (seqObj "list" #[] 0)).update s.heap.objs.size (Obj.mapSeq (· ++ vs.toArray))).push (seqObj "list" vs.toArray 0) } : Shared) = sA at k0
    have hoA : sA.heap.get? (s.heap.objs.size + 1) = some (seqObj "list" vs.toArray 0) := by rw [← hsA]; exact hoL
    clear hsA hoL keep' hsz ht'
    generalize s.heap.objs.size + 1 = a at *
    have fc : ∀ c, sA.heap.get? c = Option.none → s.heap.get? c = Option.none := fun c hc => k0.ext.fresh hc
    have kk : ∀ c s', sA.heap.get? c = Option.none → KBs [a, c] sA s' → SExt [] s s' := fun c s' hc kb => kb.from k0 fun y hy => by
      rcases List.mem_cons.mp hy with rfl | hy
      · exact fr
      · rw [List.mem_singleton.mp hy]; exact fc c hc
    refine lsortK_tree (KR := KR a) O hoA h64 (keep a) (fun c s' hc hca kb xa xc i v C hv hC => key a c s' fr (fc c hc) hca (kk c s' hc kb) xa xc i v C hv hC) (fun h2 c ks s' hc kb xa xc hlk hr => kind h2 a c ks s' fr (fc c hc) (kk c s' hc kb) xa xc hlk hr)
      (fun c ks s' hc kb xa xc hlk hr i j C hi hj hC => ask a c ks s' fr (fc c hc) (kk c s' hc kb) xa xc hlk hr i j C hi hj hC) fun p s' hp hs kb g1 g2 hat => ?_
    obtain ⟨c, hat⟩ := hat
    have k2 : SExt [] s s' := ⟨.of_keep fun y o e => kb y o (fun z => by rw [z, fr] at e; cases e) (k0.ext.strict _ _ e), g1.trans k0.gens, g2.trans k0.os⟩
    exact ⟨_, rfl, wpAny_pure ⟨_, rfl, h _ p s' hp hs k2 fr ⟨c, hat⟩⟩⟩
end
end Mine


set_option maxHeartbeats 4000000

namespace Mine
open PySem PyProof.Rows

theorem Reps.zip {W : List Addr} {h : Heap} : ∀ {vs : List Value} {ds : List D}, vs.length = ds.length → (∀ (i : Nat) (v : Value) (d : D), vs[i]? = some v → ds[i]? = some d → Rep W h v d) → Reps W h vs ds
  | [], [], _, _ => .nil
  | [], _ :: _, e, _ => by simp at e
  | _ :: _, [], e, _ => by simp at e
  | v :: vs, d :: ds, e, k => .cons (k 0 v d rfl rfl) (Reps.zip (by simpa using e) fun i v d a b => k (i + 1) v d (by simpa using a) (by simpa using b))
section
variable {X : Cx} {W : List Addr} {ρ : List (Str × Ent)}
/- two levels deeper in C -/
noncomputable def Cx.in2 (X : Cx) : Cx := { X with A := X.A.in1.in1, n := X.n - 1 }
theorem Fine.in2 (F : Fine X) (hn : 1 ≤ X.n) : Fine X.in2 :=
  { kind := F.kind, globals := F.globals, builtins := F.builtins, start := F.start, tsub := F.tsub, kd := F.kd, hnd := F.hnd, dep := (by have := F.dep; show X.A.depth + (X.n - 1) < _; lia),
    uni := (by have := F.uni; show X.A.units + 1 + 1 + 8 * (X.n - 1) + 100 < _; lia), cells := F.cells }
theorem Ok.in2 {s : Shared} (ok : Ok X W ρ s) : Ok X.in2 W ρ s := ⟨ok.ext, ok.nd, ok.ent, ok.own, ok.wal⟩

/- how keys compare while they are sorted -/
structure KeyLt (X : Cx) (W : List Addr) (κ : SortKind) (ks : List D) (lt : Nat → Nat → Bool) : Prop where
  kind : ∀ (N : List Addr) s vs ρ, Fine X.in2 → Ok X.in2 (N ++ W) ρ s → Reps (N ++ W) s.heap vs ks → 2 ≤ vs.length → wpAny X.M X.A.in1.in1 (keyKind' vs.toArray) (fun κ' s'' => κ' = κ ∧ SExt [] s s'') NoE s
  ask : ∀ (N : List Addr) s u v a b i j ρ, Fine X.in2 → Ok X.in2 (N ++ W) ρ s → ks[i]? = some a → ks[j]? = some b → Rep (N ++ W) s.heap u a → Rep (N ++ W) s.heap v b → wpAny X.M X.A.in1.in1 (keyLt' κ u v) (fun c s'' => c = lt i j ∧ SExt [] s s'') NoE s

/- sorted(list, key=f [, reverse=b]) -/
theorem sortedK_v {s : Shared} {l : Addr} {vs : List Value} {ds ks es : List D} {f : Value} {b : Bool} {kw : List (Str × Value)} {lt : Nat → Nat → Bool} {κ : SortKind} (F : Fine X) (ok : Ok X W ρ s) (hn : 1 ≤ X.n) (O : SOrd lt)
    (hl : s.heap.PlainList l vs.toArray) (r : Reps W s.heap vs ds) (hz : ds.length ≤ 64) (hk : ks.length = ds.length)
    (ha1 : argsOk "sorted" ⟨[.ref l], kw⟩) (ha2 : ∀ x, argsOk "list.sort" ⟨[.ref x], kw⟩) (ht : ∀ x, Builtin.«list.sort» ⟨[.ref x], kw⟩ = ksk_tree x f b)
    (key : ∀ (N : List Addr) (i : Nat) (d k : D), ds[i]? = some d → ks[i]? = some k → CallR X.in2 (N ++ W) f [d] .s k) (kl : KeyLt X W κ ks lt)
    (he : ∀ p : List Nat, p.Perm (List.range ds.length) → p.Pairwise (Bf (ltTo b lt)) → (p.map fun i => ds.getD i .none) = es) :
    wpAny X.M X.A (call (.builtin "sorted") [.ref l] kw) (fun v s' => SExt [] s s' ∧ Post .f W s.heap v s'.heap (.list es)) NoE s := by
  have hlen := r.length
  have okN : ∀ (a c : Addr) s', s.heap.get? a = Option.none → s.heap.get? c = Option.none → SExt [] s s' → (∃ o, s'.heap.get? a = some o) → (∃ o, s'.heap.get? c = some o) → Ok X.in2 ([c, a] ++ W) ρ s' ∧ ∀ i v d, vs[i]? = some v → ds[i]? = some d → Rep ([c, a] ++ W) s'.heap v d := fun a c s' fa fc k xa xc => by
    have hf : ∀ x ∈ [c, a], s.heap.get? x = Option.none := fun x hx => by
      rcases List.mem_cons.mp hx with rfl | hx
      · exact fc
      · rw [List.mem_singleton.mp hx]; exact fa
    refine ⟨(ok_maskN ok k hf fun x hx => ?_).in2, fun i v d e1 e2 => ?_⟩
    · rcases List.mem_cons.mp hx with rfl | hx
      · exact xc
      · rw [List.mem_singleton.mp hx]; exact xa
    · obtain ⟨v', e', rv⟩ := r.get e2
      rw [e1] at e'; cases e'
      exact rv.maskN k.ext.strict hf
  refine sortedK_tree (κ := κ) (lt := lt) (f := f) (b := b) (KR := fun a c i k s' => ∃ d, ks[i]? = some d ∧ Rep ([c, a] ++ W) s'.heap k d) O hl.isList (by lia) ha1 ha2 ht (fun a c i k s' s'' hk' kb => ?_) (fun a c s' fa fc hca k xa xc i v C hv hC => ?_) (fun h2 a c kvs s' fa fc k xa xc hlk hr => ?_) (fun a c kvs s' fa fc k xa xc hlk hr i j C hi hj hC => ?_) fun D p s' hp hs k fD hpl => ?_
  · obtain ⟨d, e, rd⟩ := hk'
    exact ⟨d, e, rd.move fun x o hx ex zz1 => ⟨kb.keep x o (fun z => hx (List.mem_append_left _ (by rw [List.mem_singleton.mp z]; exact .head _))) ex, hx⟩⟩
  · have hi : i < ds.length := by have := (List.getElem?_eq_some_iff.mp hv).1; lia
    obtain ⟨ok', rv⟩ := okN a c s' fa fc k xa xc
    have e2 : ds[i]? = some ds[i] := List.getElem?_eq_getElem hi
    have e3 : ks[i]? = some ks[i] := List.getElem?_eq_getElem (by lia)
    refine wpAny_mono (key [c, a] i _ _ e2 e3 s' ρ [v] (F.in2 hn) ok' (.cons (rv i v _ hv e2) .nil)) (fun w s'' h => hC w s'' ⟨_, e3, h.2⟩ h.1) fun zz1 zz2 z => z
  · obtain ⟨ok', _⟩ := okN a c s' fa fc k xa xc
    refine kl.kind [c, a] s' kvs ρ (F.in2 hn) ok' (Reps.zip (by lia) fun i v d e1 e2 => ?_) (by lia)
    obtain ⟨d', e', rd⟩ := hr i v e1
    rw [e2] at e'; cases e'
    exact rd
  · obtain ⟨ok', _⟩ := okN a c s' fa fc k xa xc
    obtain ⟨d1, e1, r1⟩ := hr i _ (List.getElem?_eq_getElem (show i < kvs.length by lia))
    obtain ⟨d2, e2, r2⟩ := hr j _ (List.getElem?_eq_getElem (show j < kvs.length by lia))
    unfold kas_ask
    rw [List.getD_eq_getElem?_getD, List.getD_eq_getElem?_getD, List.getElem?_eq_getElem (show i < kvs.length by lia), List.getElem?_eq_getElem (show j < kvs.length by lia)]
    exact wpAny_mono (kl.ask [c, a] s' _ _ d1 d2 i j ρ (F.in2 hn) ok' e1 e2 r1 r2) (fun z s'' h => by rw [h.1]; exact hC s'' h.2) fun zz1 zz2 z => z
  · have hw : D ∉ W := fun z => by obtain ⟨o, e⟩ := ok.wal D z; rw [fD] at e; cases e
    have rk := r.ext k.ext
    have rp : Reps W s'.heap (p.map fun i => vs.getD i Value.none) (p.map fun i => ds.getD i .none) := by
      have hm : ∀ i ∈ p, i < ds.length := fun i hi => by have := hp.mem_iff.mp hi; rw [List.mem_range] at this; lia
      clear hs hp hpl
      induction p with
      | nil => exact .nil
      | cons i p ih =>
        have hi := hm i (.head _)
        obtain ⟨v, e, rv⟩ := rk.get (i := i) (d := ds[i]) (List.getElem?_eq_getElem hi)
        refine .cons ?_ (ih fun i hi => hm i (.tail _ hi))
        show Rep W s'.heap (vs.getD i Value.none) (ds.getD i .none)
        rw [List.getD_eq_getElem?_getD, e, List.getD_eq_getElem?_getD, List.getElem?_eq_getElem hi]; exact rv
    have hp' : p.Perm (List.range ds.length) := by rw [← hlen]; exact hp
    rw [he p hp' hs] at rp
    exact ⟨k, .list hpl hw rp, fun b e => by cases e; exact fD⟩
end
end Mine



namespace Mine
open PySem PyProof.Rows

/- ### the one stable order -/
noncomputable def insB (lt : Nat → Nat → Bool) (x : Nat) : List Nat → List Nat
  | [] => [x]
  | y :: l => if lt x y then x :: y :: l else y :: insB lt x l
/- the stable order of the first n -/
noncomputable def stab (lt : Nat → Nat → Bool) : Nat → List Nat
  | 0 => []
  | n + 1 => insB lt n (stab lt n)
theorem insB_perm (lt : Nat → Nat → Bool) (x : Nat) : ∀ l, (insB lt x l).Perm (x :: l)
  | [] => .refl _
  | y :: l => by
    unfold insB
    split
    · exact .refl _
    · exact (List.Perm.cons y (insB_perm lt x l)).trans (.swap x y l)
theorem stab_perm (lt : Nat → Nat → Bool) : ∀ n, (stab lt n).Perm (List.range n)
  | 0 => .refl _
  | n + 1 => by
    rw [List.range_succ]
    exact (insB_perm lt n _).trans (((stab_perm lt n).cons n).trans (List.perm_append_singleton n _).symm)
theorem insB_sorted {lt : Nat → Nat → Bool} (O : SOrd lt) {x : Nat} : ∀ {l : List Nat}, (∀ y ∈ l, y < x) → l.Pairwise (Bf lt) → (insB lt x l).Pairwise (Bf lt)
  | [], _, _ => List.pairwise_singleton _ _
  | y :: l, hx, h => by
    rw [List.pairwise_cons] at h
    unfold insB
    split
    · rename_i c
      rw [List.pairwise_cons, List.pairwise_cons]
      refine ⟨fun z hz => ?_, h.1, h.2⟩
      rcases List.mem_cons.mp hz with rfl | hz
      · exact .inl c
      · exact .inl (O.lt_ge c (Bf.ge O (h.1 z hz)))
    · rename_i c
      rw [List.pairwise_cons]
      refine ⟨fun z hz => ?_, insB_sorted O (fun z hz => hx z (.tail _ hz)) h.2⟩
      rcases List.mem_cons.mp ((insB_perm lt x l).mem_iff.mp hz) with rfl | hz
      · exact (Bool.eq_false_or_eq_true (lt y z)).elim .inl fun e => .inr ⟨by simpa using c, hx y (.head _)⟩
      · exact h.1 z hz
theorem stab_sorted {lt : Nat → Nat → Bool} (O : SOrd lt) : ∀ n, (stab lt n).Pairwise (Bf lt)
  | 0 => .nil
  | n + 1 => insB_sorted O (fun y hy => by have := (stab_perm lt n).mem_iff.mp hy; rwa [List.mem_range] at this) (stab_sorted O n)
theorem Bf.asym {lt : Nat → Nat → Bool} (O : SOrd lt) {a b : Nat} (h : Bf lt a b) : ¬ Bf lt b a := fun h' => by
  rcases h with h | ⟨h, l⟩ <;> rcases h' with h' | ⟨h', l'⟩
  · rw [O.asym h] at h'; cases h'
  · rw [h] at h'; cases h'
  · rw [h] at h'; cases h'
  · lia
theorem stab_only {lt : Nat → Nat → Bool} (O : SOrd lt) {n : Nat} {p : List Nat} (hp : p.Perm (List.range n)) (hs : p.Pairwise (Bf lt)) : p = stab lt n :=
  List.Perm.eq_of_pairwise (fun a b zz1 zz2 h1 h2 => (Bf.asym O h1 h2).elim) hs (stab_sorted O n) (hp.trans (stab_perm lt n).symm)
end Mine


set_option maxHeartbeats 4000000

namespace Mine
open PySem PyProof.Rows
/- lists by their first items that differ -/
noncomputable def lexLt {α : Type} (e l : α → α → Bool) : List α → List α → Bool
  | _, [] => false
  | [], _ :: _ => true
  | x :: xs, y :: ys => if e x y = true then lexLt e l xs ys else l x y
section
variable {prog : Program} {w : World} {A : Around} {s : Shared} {a b : Addr} {us vs : List Value} {na nb : Nat} {α : Type} {xs ys : List α} {e l : α → α → Bool} {I : Shared → Prop}
structure LtAsk (prog : Program) (w : World) (A : Around) (a b : Addr) (us vs : List Value) (na nb : Nat) (xs ys : List α) (e l : α → α → Bool) (I : Shared → Prop) : Prop where
  lx : us.length = xs.length
  ly : vs.length = ys.length
  at_ : ∀ s, I s → s.heap.get? a = some (seqObj "list" us.toArray na) ∧ s.heap.get? b = some (seqObj "list" vs.toArray nb)
  eq : ∀ (i : Nat) u v x y s (Q : Bool → Shared → Prop) E, us[i]? = some u → vs[i]? = some v → xs[i]? = some x → ys[i]? = some y → I s → (∀ s', I s' → Q (e x y) s') → wpAny (model prog w) A.in1 (eqBool u v) Q E s
  lt : ∀ (i : Nat) u v x y s (Q : Value → Shared → Prop) E, us[i]? = some u → vs[i]? = some v → xs[i]? = some x → ys[i]? = some y → I s → (∀ s', I s' → Q (.bool (l x y)) s') → wpAny (model prog w) A.in1 (richCompare .Lt u v) Q E s
theorem lexLt_nil {α : Type} (e l : α → α → Bool) {xs ys : List α} (h : xs = [] ∨ ys = []) : lexLt e l xs ys = decide (xs.length < ys.length) := by
  cases xs <;> cases ys <;> first | rfl | (rcases h with h | h <;> cases h)
theorem lt_loop (H : LtAsk prog w A a b us vs na nb xs ys e l I) : ∀ (k i : Nat) (s : Shared) (R : Result → Shared → Prop), us.length - i = k → i ≤ us.length → i ≤ vs.length → I s → (∀ s', I s' → R (.ok (.ret (.bool (lexLt e l (xs.drop i) (ys.drop i))))) s') →
    wpAny (model prog w) A.in1 (Builtin.«list.__eq__.loop» ⟨[.ref a, .ref b, rawInt i, rawInt 0], []⟩) (fun fin s' => match fin with | .done f => R (.ok f) s' | .again c' => c'.quiet = true ∧ codeAny (model prog w) A c' R s') (fun e s' => R (.error e) s') s := by
  intro k
  induction k with
  | zero =>
    intro i s R hk hi1 hi2 hI hR
    obtain ⟨h1, h2⟩ := H.at_ s hI
    have lx := H.lx
    have ly := H.ly
    have hr := hR s hI
    have hi : us.length ≤ i := Nat.sub_eq_zero_iff_le.mp hk
    rw [lexLt_nil e l (.inl (List.drop_eq_nil_of_le (lx ▸ hi))), List.length_drop, List.length_drop] at hr
    have n1 : us.toArray[((i : Int)).toNat]? = none := by rw [List.getElem?_toArray, Int.toNat_natCast]; exact List.getElem?_eq_none hi
    show wpAny _ A.in1 (Builtin.List.listItems (.ref a) >>= _) _ _ s
    refine wpAny_bind (listItems_at h1 rfl (wpAny_bind (listItems_at h2 rfl ?_)))
    rw [n1]
    show wpAny _ A.in1 (Builtin.List.listItems (.ref a) >>= _) _ _ s
    refine wpAny_bind (listItems_at h1 rfl (wpAny_bind (listItems_at h2 rfl ?_)))
    show wpAny _ _ (ret (.bool (decide (us.toArray.size < vs.toArray.size)))) _ _ s
    refine wpAny_pure ?_
    have z : decide (us.toArray.size < vs.toArray.size) = decide (xs.length - i < ys.length - i) := by
      rw [List.size_toArray, List.size_toArray, decide_eq_decide, lx, ly]; exact (Nat.sub_lt_sub_iff_right (lx ▸ hi1)).symm
    rw [z]; exact hr
  | succ k ih =>
    intro i s R hk hi1 hi2 hI hR
    obtain ⟨h1, h2⟩ := H.at_ s hI
    have lx := H.lx
    have ly := H.ly
    by_cases hv : i < vs.length
    · have hu : i < us.length := Nat.lt_of_sub_eq_succ hk
      have n1 : us.toArray[((i : Int)).toNat]? = some us[i] := by simp [hu]
      have n2 : vs.toArray[((i : Int)).toNat]? = some vs[i] := by simp [hv]
      have d1 : xs.drop i = xs[i] :: xs.drop (i + 1) := List.drop_eq_getElem_cons (lx ▸ hu)
      have d2 : ys.drop i = ys[i] :: ys.drop (i + 1) := List.drop_eq_getElem_cons (ly ▸ hv)
      have hR2 : ∀ s', I s' → R (.ok (.ret (.bool (if e xs[i] ys[i] = true then lexLt e l (xs.drop (i + 1)) (ys.drop (i + 1)) else l xs[i] ys[i])))) s' := fun s' z => by
        have := hR s' z
        rw [d1, d2] at this; exact this
      have hc : ((i : Int) + 1) = ((i + 1 : Nat) : Int) := by push_cast; rfl
      show wpAny _ A.in1 (Builtin.List.listItems (.ref a) >>= _) _ _ s
      refine wpAny_bind (listItems_at h1 rfl (wpAny_bind (listItems_at h2 rfl ?_)))
      rw [n1, n2]
      refine wpAny_bind (H.eq i us[i] vs[i] xs[i] ys[i] s _ _ (List.getElem?_eq_getElem _) (List.getElem?_eq_getElem _) (List.getElem?_eq_getElem _) (List.getElem?_eq_getElem _) hI fun s1 hI1 => ?_)
      cases he : e xs[i] ys[i] with
      | true =>
        rw [if_pos rfl]
        rw [hc]
        refine wpAny_pure ⟨plainId_quiet PySem.MeetsSeq3.plain_eq_loop _, codeAny_builtin PySem.MeetsSeq3.entry_eq_loop ?_⟩
        rw [Around.under_plainId PySem.MeetsSeq3.plain_eq_loop _]
        refine ih (i + 1) s1 R (by rw [← Nat.sub_sub, hk]; rfl) hu hv hI1 fun s' z => ?_
        have := hR2 s' z
        rw [he, if_pos rfl] at this; exact this
      | false =>
        rw [if_neg (by simp)]
        obtain ⟨h3, h4⟩ := H.at_ s1 hI1
        refine wpAny_bind (listItems_at h3 rfl (wpAny_bind (listItems_at h4 rfl ?_)))
        rw [n1, n2]
        refine wpAny_bind (H.lt i us[i] vs[i] xs[i] ys[i] s1 _ _ (List.getElem?_eq_getElem _) (List.getElem?_eq_getElem _) (List.getElem?_eq_getElem _) (List.getElem?_eq_getElem _) hI1 fun s2 hI2 => ?_)
        refine wpAny_pure ?_
        have := hR2 s2 hI2
        rw [he, if_neg (by simp)] at this; exact this
    · have hr := hR s hI
      rw [lexLt_nil e l (.inr (List.drop_eq_nil_of_le (ly ▸ Nat.le_of_not_lt hv))), List.length_drop, List.length_drop] at hr
      have hu : i < us.length := Nat.lt_of_sub_eq_succ hk
      have n1 : us.toArray[((i : Int)).toNat]? = some us[i] := by simp [hu]
      have n2 : vs.toArray[((i : Int)).toNat]? = none := by rw [List.getElem?_toArray, Int.toNat_natCast]; exact List.getElem?_eq_none (Nat.le_of_not_lt hv)
      show wpAny _ A.in1 (Builtin.List.listItems (.ref a) >>= _) _ _ s
      refine wpAny_bind (listItems_at h1 rfl (wpAny_bind (listItems_at h2 rfl ?_)))
      rw [n1, n2]
      show wpAny _ A.in1 (Builtin.List.listItems (.ref a) >>= _) _ _ s
      refine wpAny_bind (listItems_at h1 rfl (wpAny_bind (listItems_at h2 rfl ?_)))
      show wpAny _ _ (ret (.bool (decide (us.toArray.size < vs.toArray.size)))) _ _ s
      refine wpAny_pure ?_
      have z : decide (us.toArray.size < vs.toArray.size) = decide (xs.length - i < ys.length - i) := by
        rw [List.size_toArray, List.size_toArray, decide_eq_decide, lx, ly]; exact (Nat.sub_lt_sub_iff_right (lx ▸ hi1)).symm
      rw [z]; exact hr
/- list.__lt__ -/
theorem list_lt {Q : Value → Shared → Prop} {E : Value → Shared → Prop} (H : LtAsk prog w A a b us vs na nb xs ys e l I) (hI : I s) (hQ : ∀ s', I s' → Q (.bool (lexLt e l xs ys)) s') :
    wpAny (model prog w) A (call (.builtin "list.__lt__") [.ref a, .ref b]) Q E s := by
  obtain ⟨h1, h2⟩ := H.at_ s hI
  refine call_meetsIn (T := "list") (name := "__lt__") (S := fun A' R s => A' = A ∧ I s ∧ ∀ s', I s' → R (.ok (.ret (.bool (lexLt e l xs ys)))) s') PySem.F.slot_list_lt ⟨_, h1, rfl⟩ PySem.F.entry_list_lt (PySem.F.args_list_lt_2 _ _) (fun A' R s h => ?_) ⟨rfl, hI, hQ⟩
  obtain ⟨rfl, hI, hR⟩ := h
  obtain ⟨h1, h2⟩ := H.at_ s hI
  have f3 := PySem.AutoSeq1.sub_list_list
  have fin := lt_loop H (us.length - 0) 0 s R rfl (Nat.zero_le _) (Nat.zero_le _) hI hR
  obtain ⟨hp, g, d, tk, os⟩ := s
  wp_walk using AutoSeq1.wpAny_loadPart' h1, AutoSeq1.wpAny_loadPart' h2
  refine ⟨plainId_quiet PySem.MeetsSeq3.plain_eq_loop _, codeAny_builtin PySem.MeetsSeq3.entry_eq_loop ?_⟩
  rw [Around.under_plainId PySem.MeetsSeq3.plain_eq_loop _]
  exact fin
/- how the sort asks lists -/
theorem oneLt_list {Q : Bool → Shared → Prop} {E : Value → Shared → Prop} (H : LtAsk prog w A a b us vs na nb xs ys e l I) (hu : A.units < cLine) (hI : I s) (hQ : ∀ s', I s' → Q (lexLt e l xs ys) s') :
    wpAny (model prog w) A (keyLt' oneType' (.ref a) (.ref b)) Q E s := by
  obtain ⟨h1, h2⟩ := H.at_ s hI
  rw [keyLt'_oneType, oneLt'_eq]
  simp only [if_true]
  refine wpAny_bind (wpAny_cRoomFor hu ?_)
  refine wpAny_bind (wpAny_callSpecialIfBound?_slot (T := "list") ⟨_, h1, rfl⟩ PySem.F.slot_list_lt ?_)
  refine list_lt H hI fun s' z => ?_
  exact wpAny_truthy_bool (hQ s' z)
end
noncomputable abbrev listI (l : List Int) : D := .list (l.map .int)
end Mine



namespace Mine
open PySem PyProof.Rows
section
variable {X : Cx} {W : List Addr} {ρ : List (Str × Ent)} {N : Nrm} {R : Rtn}
/- x.name(e) for an own list, as a statement -/
theorem own_meth {x : Str} {name : Str} {id : String} {p ap cp pos : Pos} {e : Expr} {l : Lv} {a : Addr} {ns ms : List Int} {v : Int} {ρ' : List (Str × Ent)} {rest : List Stmt} (F : Fine X) (hx : (x, Ent.own a ns) ∈ ρ) (slot : Slot "list" name id) (hty : typeOf (.builtin id) = pure (.type "method_descriptor")) (h : Ev X W ρ l e (.int v)) (hp : Put ρ x (.own a ms) ρ')
    (hcall : ∀ (s : Shared) (us : List Value) (u : Tok) (Q : Value → Shared → Prop), s.heap.PlainList a us.toArray → Reps W s.heap us (ns.map .int) → (∀ h' tk vs, Heap.ExtBut a s.heap h' → h'.PlainList a vs.toArray → Reps W h' vs (ms.map .int) → Q .none { s with heap := h', toks := tk }) → wpAny X.M X.A (call (.builtin id) [.ref a, .int v u]) Q NoE s)
    (n : Blk X W ρ' rest N R) (hn : okName x = true := by decide +kernel)
    (he : ∀ env, ∃ pl, eval (.Call (.Attribute (.Name x p) name ap) [e] [] cp) env = (do
      let ov ← eval (.Name x p) env
      standAt ap.atName
      let (f, first) ← holding [ov] (getMethod ov name pl)
      callWith cp f first (backTo cp (starEach [e] env)) (backToKw cp (keywordEach [] env))) := by intro _; exact ⟨_, rfl⟩)
    (hst : ∀ env, (backTo cp (starEach [e] env)).any (·.1) = false := by intro _; rfl) (hse : ∀ env, starEach [e] env = (false, eval e env) :: starEach [] env := by intro _; rfl)
    (hsw : ∀ env, swapsWith (.Call (.Attribute (.Name x p) name ap) [e] [] cp) Option.none pos.line env = pure false := by intro _; rfl) :
    Blk X W ρ (.Expr (.Call (.Attribute (.Name x p) name ap) [e] [] cp) pos :: rest) N R := blk_cons fun P s ok => by
  have hi : interactive X.env = false := by unfold interactive; rw [F.kind]; rfl
  refine wpAny_Expr_any ?_ hi (hsw _)
  obtain ⟨pl, he⟩ := he X.env
  rw [he]
  obtain ⟨h1, vs, hl, hr⟩ := own_val ok hx
  refine wpAny_bind (wpAny_Name (load1 F.kind h1 ?_ (okName_d hn).2) (okName_d hn).1)
  refine wpAny_bind (wpAny_standAt (wpAny_bind (wpAny_holding (wpAny_mono (getM_list (X := X) (W := W) (ds := ns.map .int) slot hty s ρ (.ref a) _ F ok.ok ⟨a, vs, rfl, hl, hr⟩) (fun fx s₂ k₂ => ?_) fun zz1 zz2 x => x))))
  obtain ⟨k₂, rfl⟩ := k₂
  have ok₂ := ok.mono k₂
  show wpAny X.M X.A (callWith cp (.builtin id) [.ref a] (backTo cp (starEach [e] X.env)) []) _ _ s₂
  refine callWith_F (V := fun vs h => RepTs W h vs [.int v]) F ok₂.ok (evTs_cons h evTs_nil (hse _) cp s₂ ok₂.ok) keepOk_builtin (fun vs s₃ k₃ hv => ?_) (hst _)
  obtain ⟨w, rfl, rw⟩ := repTs_one hv
  obtain ⟨u, rfl⟩ := repT_int rw
  have ok₃ := ok₂.mono k₃
  obtain ⟨_, us, hl₃, hr₃⟩ := own_val ok₃ hx
  refine hcall s₃ us u _ hl₃ hr₃ fun h' tk vs' hb hl' hr' => ?_
  exact n P _ (own_set (tk := tk) ok₃ hx hp hb ⟨vs', hl', hr'⟩)
theorem append_own {x : Str} {p ap cp pos : Pos} {e : Expr} {l : Lv} {a : Addr} {ns : List Int} {v : Int} {ρ' : List (Str × Ent)} {rest : List Stmt} (F : Fine X) (hx : (x, Ent.own a ns) ∈ ρ) (h : Ev X W ρ l e (.int v)) (hz : ns.length ≤ 1000000) (hp : Put ρ x (.own a (ns ++ [v])) ρ')
    (n : Blk X W ρ' rest N R) (hn : okName x = true := by decide +kernel)
    (he : ∀ env, ∃ pl, eval (.Call (.Attribute (.Name x p) "append" ap) [e] [] cp) env = (do
      let ov ← eval (.Name x p) env
      standAt ap.atName
      let (f, first) ← holding [ov] (getMethod ov "append" pl)
      callWith cp f first (backTo cp (starEach [e] env)) (backToKw cp (keywordEach [] env))) := by intro _; exact ⟨_, rfl⟩)
    (hst : ∀ env, (backTo cp (starEach [e] env)).any (·.1) = false := by intro _; rfl) (hse : ∀ env, starEach [e] env = (false, eval e env) :: starEach [] env := by intro _; rfl)
    (hsw : ∀ env, swapsWith (.Call (.Attribute (.Name x p) "append" ap) [e] [] cp) Option.none pos.line env = pure false := by intro _; rfl) :
    Blk X W ρ (.Expr (.Call (.Attribute (.Name x p) "append" ap) [e] [] cp) pos :: rest) N R := by
  refine own_meth F hx slot_list_append PySem.F.type_list_append h hp (fun s us u Q hl hr q => ?_) n hn he hst hse hsw
  have hlen := hr.length
  rw [List.length_map] at hlen
  refine wpAny_list_append_plain hl (fun h' hl' hsb => ?_) (by rw [List.size_toArray, sizeLine_eq]; (first | lia | omega))
  refine q h' s.toks (us ++ [.int v u]) hsb.extBut (by simpa using hl') ?_
  rw [List.map_append]
  exact (reps_ints_any hr).append (.cons (.int _ _) .nil)
end
end Mine



namespace Mine
open PySem PyProof.Rows PySem.Builtin

theorem ck_bestBase : Slots.bestBase [.type "object"] = pure (.type "object") := by kernel_rfl
theorem ck_slotNames : Slots.slotNamesOf (.type "object") = pure [] := by kernel_rfl
theorem ck_givesDict : Slots.givesDict (.type "object") = pure false := by kernel_rfl
theorem ck_givesWeak : Slots.givesWeak (.type "object") = pure false := by kernel_rfl
theorem ck_varSize : Slots.varSize (.type "object") = pure false := by kernel_rfl
theorem ck_extended : extendedBase [.type "object"] = pure (.type "object") := by kernel_rfl
theorem ck_mroHook : mroHook? (.type "type") = pure none := by kernel_rfl
theorem ck_linearize : linearize [.type "object"] mroOf = pure [.type "object"] := by kernel_rfl
theorem ck_turned : notOverATurnedClass [.type "object"] = pure () := by kernel_rfl
theorem ck_madeBy : Bind.madeBy (.type "object") = pure (some "object.__new__") := by kernel_rfl
theorem ck_madeByT : Bind.madeBy (.type "type") = pure (some "type.__new__") := by kernel_rfl
theorem ck_sub_tt : isSubtype (.type "type") (.type "type") = pure true := by kernel_rfl
theorem ck_sub_tup : isSubtype (.type "tuple") (.type "tuple") = pure true := by kernel_rfl
theorem ck_sub_dict : isSubtype (.type "dict") (.type "dict") = pure true := by kernel_rfl
theorem ck_typeOfObject : typeOf (.type "object") = pure (.type "type") := by kernel_rfl
theorem ck_diter : typeLookup (.type "dict") "__iter__" = pure (some (.builtin "dict.__iter__")) := by kernel_rfl
theorem mkStrK {M : Model} {A : Around} {E : Value → Shared → Prop} {h : Heap} {g : Array GenState} {d : Drawn} {t : Nat} {os : OsState} {x : Str} {Q : Value → Shared → Prop} (hx : x.length ≤ sizeLine) (hq : Q (.str x t) ⟨h, g, d, t + 1, os⟩) : wpAny M A (mkStr x) Q E ⟨h, g, d, t, os⟩ := wpAny_mkStr' hq hx
section
variable {M : Model} {A : Around} {E : Value → Shared → Prop} {s : Shared}
theorem at_load {a : Addr} {Q : Obj → Shared → Prop} (x : wpAny M A (load a) Q E s) : wpAny M A (load a) Q E s := x
theorem at_loadPart {a : Addr} {part : Option Value} {Q : Obj → Shared → Prop} (x : wpAny M A (loadPart a part) Q E s) : wpAny M A (loadPart a part) Q E s := x
theorem at_update {a : Addr} {f : Obj → Obj} {Q : Unit → Shared → Prop} (x : wpAny M A (update a f) Q E s) : wpAny M A (update a f) Q E s := x
theorem at_updatePart {a : Addr} {part : Option Value} {f : Obj → Obj} {Q : Unit → Shared → Prop} (x : wpAny M A (updatePart a part f) Q E s) : wpAny M A (updatePart a part f) Q E s := x
end
end Mine


set_option pp.deepTerms false
set_option pp.deepTerms.threshold 3

namespace Mine
open PySem PyProof.Rows PySem.Builtin

section
variable {prog : Program} {w : World} {A : Around} {E : Value → Shared → Prop} {h : Heap} {g : Array GenState} {d : Drawn} {t : Nat} {os : OsState}

theorem nsFind_find {es : Array DictEntry} {n : Str} {v : Value} (h : nsFind es n = some v) : ∃ e, es.find? (·.key.isStr n) = some e ∧ e.val = v := by
  unfold nsFind findBy at h
  simpa [Option.map_eq_some_iff] using h
theorem nsFind_any {es : Array DictEntry} {n : Str} (h : nsFind es n = none) : es.any (·.key.isStr n) = false := by
  unfold nsFind findBy at h
  rw [Option.map_eq_none_iff, Array.find?_eq_none] at h
  rw [Array.any_eq_false']
  intro e he
  exact h e he

theorem slots_read {es : Array DictEntry} {sl : Addr} {tk : Tok} {Q : Slots.Plan → Shared → Prop} (hf : nsFind es "__slots__" = some (.ref sl)) (hsl : h.get? sl = some { cls := .type "list", data := .seq #[.str "obj" tk] })
    (ho : nsFind es "obj" = none) (hq : ∀ h', (∀ b o', h.get? b = some o' → h'.get? b = some o') → Q { names := ["obj"], dict := false, weak := false, inherited := [] } ⟨h', g, d, t, os⟩) :
    wpAny (model prog w) A (Slots.read "K" [.type "object"] es) Q E ⟨h, g, d, t, os⟩ := by
  obtain ⟨e, he, hv⟩ := nsFind_find hf
  have ha := nsFind_any ho
  have e1 := ck_bestBase
  have e2 := ck_slotNames
  have e3 := ck_givesDict
  have e4 := ck_givesWeak
  have e5 := ck_varSize
  unfold Slots.read
  iterate 10 (first | with_reducible (first | refine wpAny_pure ?_ | refine wpAny_bind ?_ | refine wpAny_holding ?_ | refine wpAny_rule ?_ | refine wpAny_mkInt' ?_ | (refine Mine.mkStrK ?_ ?_; focus (size_fits; done)) | refine wpAny_fresh' ?_ | refine wpAny_alloc' ?_ | refine wpAny_of_eq (by assumption) ?_ | refine wpAny_typeOf (by assumption) ?_ | refine wpAny_isInstance (by assumption) (by assumption) ?_) | ((with_reducible refine Mine.at_load ?_); (with_reducible apply wpAny_load'); focus (heap_get; done)) | ((with_reducible refine Mine.at_loadPart ?_); (with_reducible apply wpAny_loadPart'); focus (heap_get; done)) | ((with_reducible refine Mine.at_updatePart ?_); (with_reducible apply wpAny_updatePart'); focus (heap_get; done)) | ((with_reducible refine Mine.at_update ?_); (with_reducible apply wpAny_update'); focus (heap_get; done)) | ((with_reducible refine wpAny_ite_false ?_ ?_); focus (rfl; done)) | ((with_reducible refine wpAny_ite_true ?_ ?_); focus (rfl; done)) | wp_delta)
  rw [he]
  dsimp only
  rw [hv]
  iterate 9 (first | with_reducible (first | refine wpAny_pure ?_ | refine wpAny_bind ?_ | refine wpAny_holding ?_ | refine wpAny_rule ?_ | refine wpAny_mkInt' ?_ | (refine Mine.mkStrK ?_ ?_; focus (size_fits; done)) | refine wpAny_fresh' ?_ | refine wpAny_alloc' ?_ | refine wpAny_of_eq (by assumption) ?_ | refine wpAny_typeOf (by assumption) ?_ | refine wpAny_isInstance (by assumption) (by assumption) ?_) | ((with_reducible refine Mine.at_load ?_); (with_reducible apply wpAny_load'); focus (heap_get; done)) | ((with_reducible refine Mine.at_loadPart ?_); (with_reducible apply wpAny_loadPart'); focus (heap_get; done)) | ((with_reducible refine Mine.at_updatePart ?_); (with_reducible apply wpAny_updatePart'); focus (heap_get; done)) | ((with_reducible refine Mine.at_update ?_); (with_reducible apply wpAny_update'); focus (heap_get; done)) | ((with_reducible refine wpAny_ite_false ?_ ?_); focus (rfl; done)) | ((with_reducible refine wpAny_ite_true ?_ ?_); focus (rfl; done)) | wp_delta)
  refine wpAny_collect_seq sl (T := "list") (items := #[.str "obj" tk]) (Or.inl (Eq.refl "list")) hsl (Eq.refl (Value.type "list")) (Eq.refl (Data.seq #[.str "obj" tk] 0)) ?_
  intro h' k
  repeat (first | with_reducible (first | refine wpAny_pure ?_ | refine wpAny_bind ?_ | refine wpAny_holding ?_ | refine wpAny_rule ?_ | refine wpAny_mkInt' ?_ | (refine Mine.mkStrK ?_ ?_; focus (size_fits; done)) | refine wpAny_fresh' ?_ | refine wpAny_alloc' ?_ | refine wpAny_of_eq (by assumption) ?_ | refine wpAny_typeOf (by assumption) ?_ | refine wpAny_isInstance (by assumption) (by assumption) ?_) | ((with_reducible refine Mine.at_load ?_); (with_reducible apply wpAny_load'); focus (heap_get; done)) | ((with_reducible refine Mine.at_loadPart ?_); (with_reducible apply wpAny_loadPart'); focus (heap_get; done)) | ((with_reducible refine Mine.at_updatePart ?_); (with_reducible apply wpAny_updatePart'); focus (heap_get; done)) | ((with_reducible refine Mine.at_update ?_); (with_reducible apply wpAny_update'); focus (heap_get; done)) | ((with_reducible refine wpAny_ite_false ?_ ?_); focus (rfl; done)) | ((with_reducible refine wpAny_ite_true ?_ ?_); focus (rfl; done)) | wp_delta)
  rw [show Slots.isIdentifier (Str.ofString "obj") = some true from by decide +kernel]
  repeat (first | with_reducible (first | refine wpAny_pure ?_ | refine wpAny_bind ?_ | refine wpAny_holding ?_ | refine wpAny_rule ?_ | refine wpAny_mkInt' ?_ | (refine Mine.mkStrK ?_ ?_; focus (size_fits; done)) | refine wpAny_fresh' ?_ | refine wpAny_alloc' ?_ | refine wpAny_of_eq (by assumption) ?_ | refine wpAny_typeOf (by assumption) ?_ | refine wpAny_isInstance (by assumption) (by assumption) ?_) | ((with_reducible refine Mine.at_load ?_); (with_reducible apply wpAny_load'); focus (heap_get; done)) | ((with_reducible refine Mine.at_loadPart ?_); (with_reducible apply wpAny_loadPart'); focus (heap_get; done)) | ((with_reducible refine Mine.at_updatePart ?_); (with_reducible apply wpAny_updatePart'); focus (heap_get; done)) | ((with_reducible refine Mine.at_update ?_); (with_reducible apply wpAny_update'); focus (heap_get; done)) | ((with_reducible refine wpAny_ite_false ?_ ?_); focus (rfl; done)) | ((with_reducible refine wpAny_ite_true ?_ ?_); focus (rfl; done)) | wp_delta)
  have hc : es.any (fun e => e.key.isStr (Slots.mangle "K" "obj")) = false := by rw [show Slots.mangle "K" "obj" = "obj" from by decide +kernel]; exact ha
  refine wpAny_ite_false ?_ ?_
  · refine decide_eq_false fun z => ?_
    have z1 := (Bool.and_eq_true_iff.mp z).1
    exact Bool.noConfusion (z1.symm.trans hc)
  repeat (first | with_reducible (first | refine wpAny_pure ?_ | refine wpAny_bind ?_ | refine wpAny_holding ?_ | refine wpAny_rule ?_ | refine wpAny_mkInt' ?_ | (refine Mine.mkStrK ?_ ?_; focus (size_fits; done)) | refine wpAny_fresh' ?_ | refine wpAny_alloc' ?_ | refine wpAny_of_eq (by assumption) ?_ | refine wpAny_typeOf (by assumption) ?_ | refine wpAny_isInstance (by assumption) (by assumption) ?_) | ((with_reducible refine Mine.at_load ?_); (with_reducible apply wpAny_load'); focus (heap_get; done)) | ((with_reducible refine Mine.at_loadPart ?_); (with_reducible apply wpAny_loadPart'); focus (heap_get; done)) | ((with_reducible refine Mine.at_updatePart ?_); (with_reducible apply wpAny_updatePart'); focus (heap_get; done)) | ((with_reducible refine Mine.at_update ?_); (with_reducible apply wpAny_update'); focus (heap_get; done)) | ((with_reducible refine wpAny_ite_false ?_ ?_); focus (rfl; done)) | ((with_reducible refine wpAny_ite_true ?_ ?_); focus (rfl; done)) | wp_delta)
  exact hq h' k
end
end Mine


set_option pp.deepTerms false
set_option pp.deepTerms.threshold 3

namespace Mine
open PySem PyProof.Rows PySem.Builtin

section
variable {prog : Program} {w : World} {A : Around} {E : Value → Shared → Prop} {h : Heap} {g : Array GenState} {d : Drawn} {t : Nat} {os : OsState}

theorem ns_get {M : Model} {a : Addr} {m : Str → Option Value} {name : Str} {Q : Option Value → Shared → Prop} (hn : h.Ns1 a m) (hq : Q (m name) ⟨h, g, d, t, os⟩) : wpAny M A (nsGet a name) Q E ⟨h, g, d, t, os⟩ :=
  wpAny_nsGet (s := ⟨h, g, d, t, os⟩) hn.ns hq
theorem ns_set {M : Model} {a : Addr} {m : Str → Option Value} {name : Str} {v : Value} {Q : Unit → Shared → Prop} (hn : h.Ns1 a m)
    (hq : ∀ h', h'.Ns1 a (fun x => if x = name then some v else m x) → Heap.SameBut a h h' → Q () ⟨h', g, d, t + 1, os⟩) : wpAny M A (nsSet a name v) Q E ⟨h, g, d, t, os⟩ :=
  wpAny_nsSet1 (s := ⟨h, g, d, t, os⟩) hn hq
theorem ns_del {M : Model} {a : Addr} {m : Str → Option Value} {name : Str} {Q : Bool → Shared → Prop} (hn : h.Ns1 a m)
    (hq : ∀ h', h'.Ns1 a (fun x => if x = name then none else m x) → Heap.SameBut a h h' → Q (m name).isSome ⟨h', g, d, t, os⟩) : wpAny M A (nsDel a name) Q E ⟨h, g, d, t, os⟩ :=
  wpAny_nsDel1 (s := ⟨h, g, d, t, os⟩) hn hq

theorem keys_few : ∀ (l : List DictEntry) (L : List Str), (l.Pairwise fun a b => ∀ n, a.key.isStr n = true → b.key.isStr n = true → False) → (∀ e ∈ l, ∃ n, e.key.isStr n = true ∧ n ∈ L) → l.length ≤ L.length
  | [], L, _, _ => Nat.zero_le _
  | e :: l, L, hp, hm => by
    obtain ⟨n, hn, hL⟩ := hm e (.head _)
    rw [List.pairwise_cons] at hp
    have := keys_few l (L.erase n) hp.2 fun e' he' => by
      obtain ⟨n', h1, h2⟩ := hm e' (.tail _ he')
      refine ⟨n', h1, ?_⟩
      have hne : n' ≠ n := fun z => by subst z; exact hp.1 e' he' n' hn h1
      exact (List.mem_erase_of_ne hne).mpr h2
    rw [List.length_erase_of_mem hL] at this
    have hpos : 0 < L.length := List.length_pos_of_mem hL
    rw [List.length_cons]; (first | lia | omega)
/- a dict whose names lie in a short list -/
theorem ns_few {a : Addr} {m : Str → Option Value} (hn : h.Ns1 a m) (L : List Str) (hL : ∀ n, m n ≠ none → n ∈ L) : ∀ o es ep, h.get? a = some o → o.data = .dict es ep → es.size ≤ L.length := by
  intro o es ep ho hd
  obtain ⟨o', es', ep', ho', hd', hk, hu, hm⟩ := hn
  rw [ho'] at ho
  cases ho
  rw [hd'] at hd
  cases hd
  rw [← Array.length_toList]
  refine keys_few _ _ hu fun e he => ?_
  obtain ⟨n, tn, hkn⟩ := hk e (by simpa using he)
  refine ⟨n, by rw [hkn]; simp [Value.isStr], hL n fun z => ?_⟩
  have := nsFind_any ((hm n).trans z)
  rw [Array.any_eq_false'] at this
  exact this e (by simpa using he) (by rw [hkn]; simp [Value.isStr])
/- each entry of such a dict is what its name tells -/
theorem ns_vals {es : Array DictEntry} {m : Str → Option Value} (hk : StrKeys es) (hu : UniqKeys es) (hm : ∀ n, nsFind es n = m n) : ∀ e ∈ es, ∃ n tn, e.key = .str n tn ∧ m n = some e.val := by
  intro e he
  obtain ⟨n, tn, hkn⟩ := hk e he
  refine ⟨n, tn, hkn, ?_⟩
  have hs : e.key.isStr n = true := by rw [hkn]; simp [Value.isStr]
  rw [← hm n]
  unfold nsFind findBy
  have key : ∀ l : List DictEntry, (l.Pairwise fun a b => ∀ n, a.key.isStr n = true → b.key.isStr n = true → False) → e ∈ l → l.find? (fun x => x.key.isStr n) = some e := by
    intro l
    induction l with
    | nil => intro _ h; cases h
    | cons x l ih =>
      intro hp hx
      rw [List.pairwise_cons] at hp
      rcases List.mem_cons.mp hx with rfl | hx
      · rw [List.find?_cons, hs]
      · rw [List.find?_cons]
        cases q : x.key.isStr n with
        | true => exact (hp.1 e hx n q hs).elim
        | false => exact ih hp.2 hx
  have := key es.toList hu (by simpa using he)
  rw [Array.find?_toList] at this
  rw [this]; rfl

theorem ns_setv {a : Addr} {m : Str → Option Value} {name : Str} {v : Value} {Q : Unit → Shared → Prop} (hn : h.Ns1 a m) (L : List Str) (hL : ∀ n, m n ≠ none → n ∈ L) (hl : L.length ≤ 100)
    (hq : ∀ h', h'.Ns1 a (fun x => if x = name then some v else m x) → Heap.SameBut a h h' → Q () ⟨h', g, d, t + 1, os⟩) : wpAny (model prog w) A (nsSetByValue a name v) Q E ⟨h, g, d, t, os⟩ := by
  obtain ⟨o, es, ep, ho, hd, _⟩ := id hn
  have hs := ns_few hn L hL o es ep ho hd
  unfold nsSetByValue
  refine wpAny_bind (wpAny_loadPart' ho ?_)
  rw [hd]
  dsimp only
  refine wpAny_ite_false ?_ ?_
  · refine decide_eq_false fun z => ?_
    have z1 := of_decide_eq_true (Bool.and_eq_true_iff.mp z).1
    have : (100 : Nat) < sizeLine := by decide
    (first | lia | omega)
  repeat (first | exact ns_set hn hq | (first | with_reducible (first | refine wpAny_pure ?_ | refine wpAny_bind ?_ | refine wpAny_holding ?_ | refine wpAny_rule ?_ | refine wpAny_mkInt' ?_ | (refine Mine.mkStrK ?_ ?_; focus (size_fits; done)) | refine wpAny_fresh' ?_ | refine wpAny_alloc' ?_ | refine wpAny_of_eq (by assumption) ?_ | refine wpAny_typeOf (by assumption) ?_ | refine wpAny_isInstance (by assumption) (by assumption) ?_) | ((with_reducible refine Mine.at_load ?_); (with_reducible apply wpAny_load'); focus (heap_get; done)) | ((with_reducible refine Mine.at_loadPart ?_); (with_reducible apply wpAny_loadPart'); focus (heap_get; done)) | ((with_reducible refine Mine.at_updatePart ?_); (with_reducible apply wpAny_updatePart'); focus (heap_get; done)) | ((with_reducible refine Mine.at_update ?_); (with_reducible apply wpAny_update'); focus (heap_get; done)) | ((with_reducible refine wpAny_ite_false ?_ ?_); focus (rfl; done)) | ((with_reducible refine wpAny_ite_true ?_ ?_); focus (rfl; done)) | wp_delta))

noncomputable def pastM (x : Option String) : Sem Unit := match x with
  | some what => unsupported what
  | _ => pure ()
theorem pastM_none {x : Option String} (hx : x = none) : pastM x = pure () := by subst hx; rfl
theorem slots_install {a ns : Addr} {m : Str → Option Value} {oC : Obj} {c0 : ClassData} {Q : Unit → Shared → Prop}
    (hC : h.get? a = some oC) (hCd : oC.data = .cls c0) (hn : h.Ns1 ns m) (hne : a ≠ ns) (ho : m "obj" = none) (L : List Str) (hL : ∀ n, m n ≠ none → n ∈ L) (hl : L.length ≤ 100)
    (hpl : (Data.cls { c0 with hasDict := false, slotNames := ["obj"] }).pastItsLine = none)
    (hq : ∀ h' t' dsc tk, h'.Ns1 ns (fun x => if x = "obj" then some (.ref dsc) else m x) → h'.get? dsc = some { cls := .type "member_descriptor", data := .fields #[.str "obj" tk, .ref a, .builtin "proto.slot", .builtin "proto.slot#set", rawInt 0] } → h.get? dsc = none →
      h'.get? a = some { oC with data := .cls { c0 with hasDict := false, slotNames := ["obj"] } } → (∀ b o, b ≠ a → b ≠ ns → h.get? b = some o → h'.get? b = some o) → Q () ⟨h', g, d, t', os⟩) :
    wpAny (model prog w) A (Slots.install (.ref a) ns [.type "object"] { names := ["obj"], dict := false, weak := false, inherited := [] }) Q E ⟨h, g, d, t, os⟩ := by
  obtain ⟨oc, od, odt, osl⟩ := oC
  dsimp only at hCd
  subst hCd
  have e3 := ck_givesDict
  unfold Slots.install
  repeat (first | (with_reducible refine ns_get hn ?_; rw [ho]) | (with_reducible refine ns_setv (hn.at fun o e => Heap.get?_push_of_some _ e) L hL hl ?_; intro h1 n1 s1) | (first | with_reducible (first | refine wpAny_pure ?_ | refine wpAny_bind ?_ | refine wpAny_holding ?_ | refine wpAny_rule ?_ | refine wpAny_mkInt' ?_ | (refine Mine.mkStrK ?_ ?_; focus (size_fits; done)) | refine wpAny_fresh' ?_ | refine wpAny_alloc' ?_ | refine wpAny_of_eq (by assumption) ?_ | refine wpAny_typeOf (by assumption) ?_ | refine wpAny_isInstance (by assumption) (by assumption) ?_) | ((with_reducible refine Mine.at_load ?_); (with_reducible apply wpAny_load'); focus (heap_get; done)) | ((with_reducible refine Mine.at_loadPart ?_); (with_reducible apply wpAny_loadPart'); focus (heap_get; done)) | ((with_reducible refine Mine.at_updatePart ?_); (with_reducible apply wpAny_updatePart'); focus (heap_get; done)) | ((with_reducible refine Mine.at_update ?_); (with_reducible apply wpAny_update'); focus (heap_get; done)) | ((with_reducible refine wpAny_ite_false ?_ ?_); focus (rfl; done)) | ((with_reducible refine wpAny_ite_true ?_ ?_); focus (rfl; done)) | wp_delta))
  have hl0 : h.objs.size ≠ ns := Nat.ne_of_gt hn.ns.lt
  have ha0 : h.objs.size ≠ a := Nat.ne_of_gt (Heap.lt_size hC)
  have ha1 : h1.get? a = some ⟨oc, od, .cls c0, osl⟩ := (s1.2 a hne).trans (Heap.get?_push_of_some _ hC)
  refine wpAny_load' ha1 ?_
  dsimp only
  refine wpAny_bind (wpAny_update' ha1 ?_)
  unfold lookBehind
  refine wpAny_bind (wpAny_loadPart' (Heap.get?_update_self _ ha1 rfl) ?_)
  refine wpAny_of_eq (a := ()) (show pastM _ = pure () from pastM_none hpl) ?_
  refine hq _ _ h.objs.size _ (n1.at fun o e => Heap.get?_update_of_ne _ hne e) (Heap.get?_update_of_ne _ ha0.symm ((s1.2 _ hl0).trans (Heap.get?_push_size _ rfl))) (get_size h) (Heap.get?_update_self _ ha1 rfl) fun b o hb1 hb2 e => Heap.get?_update_of_ne _ hb1.symm ((s1.2 _ hb2).trans (Heap.get?_push_of_some _ e))
end
end Mine


namespace Mine
open PySem PyProof.Rows PySem.Builtin
theorem upd3 {H : Heap} {C : Addr} {f1 f2 f3 : Obj → Obj} {o o1 o2 o3 : Obj} (e : H.get? C = some o) (e1 : f1 o = o1) (e2 : f2 o1 = o2) (e3 : f3 o2 = o3) (h1 : o1.isFreed = false) (h2 : o2.isFreed = false) (h3 : o3.isFreed = false) :
    (((H.update C f1).update C f2).update C f3).get? C = some o3 := by
  subst e1 e2 e3
  exact Heap.get?_update_self _ (Heap.get?_update_self _ (Heap.get?_update_self _ e h1) h2) h3
theorem upd3_ne {H : Heap} {C b : Addr} {f1 f2 f3 : Obj → Obj} {o : Obj} (hb : C ≠ b) (e : H.get? b = some o) : (((H.update C f1).update C f2).update C f3).get? b = some o :=
  Heap.get?_update_of_ne _ hb (Heap.get?_update_of_ne _ hb (Heap.get?_update_of_ne _ hb e))
end Mine


set_option pp.deepTerms false
set_option pp.deepTerms.threshold 3

namespace Mine
open PySem PyProof.Rows PySem.Builtin

section
variable {prog : Program} {w : World} {A : Around} {E : Value → Shared → Prop} {h : Heap} {g : Array GenState} {d : Drawn} {t : Nat} {os : OsState} {s : Shared}

theorem own_mro {M : Model} {C : Addr} {o : Obj} {cd : ClassData} {l : List Value} {Q : List Value → Shared → Prop} (hC : h.get? C = some o) (hd : o.data = .cls cd) (hm : cd.mro = l) (hq : Q l ⟨h, g, d, t, os⟩) :
    wpAny M A (mroOf (.ref C)) Q E ⟨h, g, d, t, os⟩ := by
  unfold mroOf classData
  refine wpAny_bind (wpAny_bind (wpAny_load' hC ?_))
  rw [hd]
  refine wpAny_pure (wpAny_pure ?_)
  rw [hm]; exact hq
theorem own_own {M : Model} {C : Addr} {o : Obj} {cd : ClassData} {m : Str → Option Value} {name : Str} {Q : Option Value → Shared → Prop} (hC : h.get? C = some o) (hd : o.data = .cls cd) (hN : h.Ns cd.ns m) (hq : Q (m name) ⟨h, g, d, t, os⟩) :
    wpAny M A (classOwn (.ref C) name) Q E ⟨h, g, d, t, os⟩ := by
  unfold classOwn classData
  refine wpAny_bind (wpAny_bind (wpAny_load' hC ?_))
  rw [hd]
  exact wpAny_pure (wpAny_nsGet (s := ⟨h, g, d, t, os⟩) hN hq)
theorem own_lookup {M : Model} {C : Addr} {o : Obj} {cd : ClassData} {m : Str → Option Value} {name : Str} {y : Option Value} {Q : Option Value → Shared → Prop} (hC : h.get? C = some o) (hd : o.data = .cls cd)
    (hm : cd.mro = [.ref C, .type "object"]) (hN : h.Ns cd.ns m) (hB : classOwn (.type "object") name = pure y) (hq : Q (match m name with | some v => some v | none => y) ⟨h, g, d, t, os⟩) :
    wpAny M A (typeLookup (.ref C) name) Q E ⟨h, g, d, t, os⟩ := by
  rw [typeLookup_eq]
  refine wpAny_bind (own_mro hC hd hm ?_)
  rw [lookupAlong_cons]
  refine wpAny_bind (own_own hC hd hN ?_)
  cases hv : m name with
  | some v => rw [hv] at hq; exact wpAny_pure hq
  | none =>
    rw [hv] at hq
    show wpAny _ _ (lookupAlong [.type "object"] name) _ _ _
    rw [lookupAlong_cons, hB]
    refine wpAny_bind (wpAny_pure ?_)
    cases y with
    | some v => exact wpAny_pure hq
    | none => exact wpAny_pure hq
theorem ck_obj_new : classOwn (.type "object") "__new__" = pure (some (.builtin "object.__new__")) := by kernel_rfl
theorem ck_obj_isub : classOwn (.type "object") "__init_subclass__" = pure (some (.builtin "object.__init_subclass__")) := by kernel_rfl
theorem ck_isub_type : typeOf (.builtin "object.__init_subclass__") = pure (.type "classmethod_descriptor") := by kernel_rfl
theorem ck_cmd_get : typeLookup (.type "classmethod_descriptor") "__get__" = pure (some (.builtin "classmethod_descriptor.__get__")) := by kernel_rfl
theorem st_refresh {C : Addr} {o : Obj} {cd : ClassData} {m : Str → Option Value} {Q : Unit → Shared → Prop} (hC : h.get? C = some o) (hd : o.data = .cls cd) (hm : cd.mro = [.ref C, .type "object"]) (hN : h.Ns cd.ns m)
    (hs : o.slots[4]? = some (some (.builtin "object.__new__"))) (hnew : m "__new__" = none) (hq : Q () ⟨h, g, d, t, os⟩) : wpAny M A (Bind.refreshMaker C) Q E ⟨h, g, d, t, os⟩ := by
  unfold Bind.refreshMaker slotAt
  refine wpAny_bind (wpAny_bind (wpAny_loadPart' hC (wpAny_pure ?_)))
  rw [hs]
  refine wpAny_ite_false ?_ ?_
  · rfl
  refine wpAny_bind (own_lookup hC hd hm hN ck_obj_new ?_)
  rw [hnew]
  refine wpAny_ite_false ?_ ?_
  · decide +kernel
  exact wpAny_pure hq
theorem upd2 {H : Heap} {C : Addr} {f1 f2 : Obj → Obj} {o o1 o2 : Obj} (e : H.get? C = some o) (e1 : f1 o = o1) (e2 : f2 o1 = o2) (h1 : o1.isFreed = false) (h2 : o2.isFreed = false) :
    ((H.update C f1).update C f2).get? C = some o2 := by
  subst e1 e2
  exact Heap.get?_update_self _ (Heap.get?_update_self _ e h1) h2
theorem upd2_ne {H : Heap} {C b : Addr} {f1 f2 : Obj → Obj} {o : Obj} (hb : C ≠ b) (e : H.get? b = some o) : ((H.update C f1).update C f2).get? b = some o :=
  Heap.get?_update_of_ne _ hb (Heap.get?_update_of_ne _ hb e)
theorem st_install {bs : List Value} {a ns : Addr} {m : Str → Option Value} {oC : Obj} {c0 : ClassData} {Q : Unit → Shared → Prop} (e : bs = [.type "object"])
    (hC : h.get? a = some oC) (hCd : oC.data = .cls c0) (hn : h.Ns1 ns m) (hne : a ≠ ns) (ho : m "obj" = none) (L : List Str) (hL : ∀ n, m n ≠ none → n ∈ L) (hl : L.length ≤ 100)
    (hpl : (Data.cls { c0 with hasDict := false, slotNames := ["obj"] }).pastItsLine = none)
    (hq : ∀ h' t' dsc tk, h'.Ns1 ns (fun x => if x = "obj" then some (.ref dsc) else m x) → h'.get? dsc = some { cls := .type "member_descriptor", data := .fields #[.str "obj" tk, .ref a, .builtin "proto.slot", .builtin "proto.slot#set", rawInt 0] } → h.get? dsc = none →
      h'.get? a = some { oC with data := .cls { c0 with hasDict := false, slotNames := ["obj"] } } → (∀ b o, b ≠ a → b ≠ ns → h.get? b = some o → h'.get? b = some o) → Q () ⟨h', g, d, t', os⟩) :
    wpAny (model prog w) A (Slots.install (.ref a) ns bs { names := ["obj"], dict := false, weak := false, inherited := [] }) Q E ⟨h, g, d, t, os⟩ := by
  subst e; exact slots_install hC hCd hn hne ho L hL hl hpl hq
theorem for_keep {M : Model} {α β : Type} {xs : Array α} {b : β} {f : α → β → Sem (ForInStep β)} {Q : β → Shared → Prop} (hf : ∀ e ∈ xs, ∀ Q : ForInStep β → Shared → Prop, Q (.yield b) s → wpAny M A (f e b) Q E s) (hq : Q b s) : wpAny M A (forIn xs b f) Q E s := by
  refine wpAny_forIn_array' f (fun l b' s' => (∀ e ∈ l, e ∈ xs) ∧ b' = b ∧ s' = s) Q ?_ ?_ xs b ⟨fun e he => by simpa using he, rfl, rfl⟩
  · rintro x rest b' s' ⟨hl, rfl, rfl⟩
    exact hf x (hl x (.head _)) _ ⟨fun e he => hl e (.tail _ he), rfl, rfl⟩
  · rintro b' s' ⟨_, rfl, rfl⟩; exact hq
end
end Mine


open PySem PySem.W PyProof.Rows PySem.W.X
set_option maxHeartbeats 4000000
set_option pp.deepTerms false
set_option pp.deepTerms.threshold 3

namespace Mine
open PySem PyProof.Rows PySem.Builtin

theorem mem_keep {h₀ h : Heap} {news : List (Addr × Obj)} (D : Mem h₀ h [] news) : ∀ b o, h₀.get? b = some o → h.get? b = some o := fun b o e => D.keep b o e (Bool.or_eq_true_iff.mpr (.inr rfl))
noncomputable abbrev superObj (C : Addr) : Obj := { cls := .type "super", data := .fields #[.ref C, .ref C, .ref C] }
noncomputable abbrev bfmObj (C : Addr) : Obj := { cls := .type "builtin_function_or_method", data := .fields #[.builtin "object.__init_subclass__", .ref C] }
noncomputable abbrev kObj (C N : Addr) (qn : Str) (k0 k2 k3 : Option Value) : Obj := { cls := .type "type", data := .cls { name := "K", bases := [.type "object"], mro := [.ref C, .type "object"], ns := N, qualname := qn, hasDict := false, slotNames := ["obj"], hasDel := false }, slots := #[k0, none, k2, k3, some (.builtin "object.__new__"), some (.bool false)] }

section
variable {prog : Program} {w : World} {A : Around} {E : Value → Shared → Prop} {h : Heap} {g : Array GenState} {d : Drawn} {t : Nat} {os : OsState} {s : Shared} {C N : Addr} {qn : Str} {k0 k2 k3 : Option Value}

local macro_rules | `(tactic| x_close) => `(tactic| exact ⟨_, _, rfl, rfl, (Mem.nw (by assumption) _ (List.mem_cons_self ..)).2, (Mem.nw (by assumption) _ (List.mem_cons_self ..)).1, mem_keep (by assumption)⟩)
theorem super_call {Q : Value → Shared → Prop} (hC : h.get? C = some (kObj C N qn k0 k2 k3))
    (hq : ∀ a h', h.get? a = none → h'.get? a = some (superObj C) → (∀ b o, h.get? b = some o → h'.get? b = some o) → Q (.ref a) ⟨h', g, d, t, os⟩) :
    wpAny (model prog w) A (call (.type "super") [.ref C, .ref C]) Q E ⟨h, g, d, t, os⟩ := by
  refine wpAny_mono (Q := fun v s' => ∃ a h', v = .ref a ∧ s' = ⟨h', g, d, t, os⟩ ∧ h.get? a = none ∧ h'.get? a = some (superObj C) ∧ (∀ b o, h.get? b = some o → h'.get? b = some o)) (E := fun zz1 zz2 => False) ?_ (fun v s' ⟨a, h', e1, e2, x, y, z⟩ => by rw [e1, e2]; exact hq a h' x y z) fun zz1 zz2 z => z.elim
  clear hq
  unfold kObj at hC
  x_run
theorem isub_get {Q : Value → Shared → Prop} (hC : h.get? C = some (kObj C N qn k0 k2 k3))
    (hq : ∀ a h', h.get? a = none → h'.get? a = some (bfmObj C) → (∀ b o, h.get? b = some o → h'.get? b = some o) → Q (.ref a) ⟨h', g, d, t, os⟩) :
    wpAny (model prog w) A (call (.builtin "classmethod_descriptor.__get__") [.builtin "object.__init_subclass__", .none, .ref C]) Q E ⟨h, g, d, t, os⟩ := by
  refine wpAny_mono (Q := fun v s' => ∃ a h', v = .ref a ∧ s' = ⟨h', g, d, t, os⟩ ∧ h.get? a = none ∧ h'.get? a = some (bfmObj C) ∧ (∀ b o, h.get? b = some o → h'.get? b = some o)) (E := fun zz1 zz2 => False) ?_ (fun v s' ⟨a, h', e1, e2, x, y, z⟩ => by rw [e1, e2]; exact hq a h' x y z) fun zz1 zz2 z => z.elim
  clear hq
  unfold kObj at hC
  x_run
end
section
variable {prog : Program} {w : World} {A : Around} {E : Value → Shared → Prop} {h : Heap} {g : Array GenState} {d : Drawn} {t : Nat} {os : OsState} {s : Shared} {C N : Addr} {qn : Str} {k0 k2 k3 : Option Value}
local macro_rules | `(tactic| x_close) => `(tactic| exact ⟨rfl, rfl⟩)
theorem isub_call {a : Addr} {Q : Value → Shared → Prop} (hC : h.get? C = some (kObj C N "cmp_to_key.<locals>.K" k0 k2 k3)) (ha : h.get? a = some (bfmObj C))
    (hq : Q .none ⟨h, g, d, t, os⟩) : wpAny (model prog w) A (call (.ref a) []) Q E ⟨h, g, d, t, os⟩ := by
  refine wpAny_mono (Q := fun v s' => v = .none ∧ s' = ⟨h, g, d, t, os⟩) (E := fun zz1 zz2 => False) ?_ (fun v s' ⟨e1, e2⟩ => by rw [e1, e2]; exact hq) fun zz1 zz2 z => z.elim
  clear hq
  unfold kObj at hC
  unfold bfmObj at ha
  x_run

theorem drop_self {C : Addr} : (([Value.ref C, .type "object"].dropWhile (· != .ref C)).drop 1) = [.type "object"] := by
  rw [List.dropWhile_cons_of_neg (by simp)]; rfl
theorem super_ga {so : Addr} {tk : Tok} {Q : PySem.Fin → Shared → Prop} (hC : h.get? C = some (kObj C N qn k0 k2 k3)) (hso : h.get? so = some (superObj C)) (hno : Looks (model prog w) h (opaqueClassAbove (.ref C)) none)
    (hq : ∀ a h', h.get? a = none → h'.get? a = some (bfmObj C) → (∀ b o, h.get? b = some o → h'.get? b = some o) → Q (.done (.ret (.ref a))) ⟨h', g, d, t, os⟩) :
    wpAny (model prog w) A (Builtin.«super.__getattribute__» ⟨[.ref so, .str "__init_subclass__" tk], []⟩) Q E ⟨h, g, d, t, os⟩ := by
  have hdt : (superObj C).data = .fields #[.ref C, .ref C, .ref C] := rfl
  have f0 : (#[.ref C, .ref C, .ref C] : Array Value)[0]? = some (.ref C) := rfl
  have f1 : (#[.ref C, .ref C, .ref C] : Array Value)[1]? = some (.ref C) := rfl
  have f2 : (#[.ref C, .ref C, .ref C] : Array Value)[2]? = some (.ref C) := rfl
  have hCC : (Value.ref C == Value.ref C) = true := by simp
  unfold Builtin.«super.__getattribute__»
  repeat (first
    | (with_reducible refine wpAny_field hso hdt f0 ?_) | (with_reducible refine wpAny_field hso hdt f1 ?_) | (with_reducible refine wpAny_field hso hdt f2 ?_)
    | (with_reducible refine ks_wpAny_notOpaque hno ?_)
    | (with_reducible refine own_mro hC rfl rfl ?_; rw [drop_self, List.forIn_cons])
    | (with_reducible refine isub_get hC ?_; intro a h' x y z)
    | (with_reducible refine wpAny_of_eq ck_obj_isub ?_)
    | (with_reducible refine wpAny_of_eq ck_isub_type ?_)
    | (with_reducible refine wpAny_of_eq ck_cmd_get ?_)
    | (simp only [hCC, if_true])
    | wp_step
    | dsimp only)
  all_goals exact hq _ _ (by assumption) (by assumption) (by assumption)

theorem super_attr {so : Addr} {Q : Value → Shared → Prop} (hC : h.get? C = some (kObj C N qn k0 k2 k3)) (hso : h.get? so = some (superObj C)) (hno : Looks (model prog w) h (opaqueClassAbove (.ref C)) none)
    (hq : ∀ a h' t', h.get? a = none → h'.get? a = some (bfmObj C) → (∀ b o, h.get? b = some o → h'.get? b = some o) → Q (.ref a) ⟨h', g, d, t', os⟩) :
    wpAny (model prog w) A (getAttr (.ref so) "__init_subclass__") Q E ⟨h, g, d, t, os⟩ := by
  have hlk := F.ks_slot_super_ga.lookup
  have hT : ∀ t', (⟨h, g, d, t', os⟩ : Shared).TypeIs (.ref so) "super" := fun zz1 => ⟨_, hso, rfl⟩
  unfold getAttr getAttrBy
  refine wpAny_bind (wpAny_mkText (wpAny_holding (wpAny_bind (wpAny_typeOf (hT _) (wpAny_bind (wpAny_of_eq hlk ?_))))))
  show wpAny _ _ (getAttrByItsOwn (.ref so) (.str "__init_subclass__" t) (.type "super") (.builtin "super.__getattribute__") true false) _ _ _
  unfold getAttrByItsOwn hookBefore callGetattribute boundAndCalled
  refine wpAny_bind (wpAny_of_eq (show (if onTheHeap (.type "super") then typeLookup (.type "super") "__getattr__" else pure none) = pure none from rfl) ?_)
  refine wpAny_bind (wpAny_attempt (wpAny_holding ?_))
  show wpAny _ _ (bindSpecial (.builtin "super.__getattribute__") (.ref so) >>= _) _ _ _
  refine wpAny_bind (wpAny_of_eq (F.ks_slot_super_ga.bind _) ?_)
  refine wpAny_mono (Q := fun v s' => ∃ a h', v = .ref a ∧ s' = ⟨h', g, d, t + 1, os⟩ ∧ h.get? a = none ∧ h'.get? a = some (bfmObj C) ∧ (∀ b o, h.get? b = some o → h'.get? b = some o)) (E := fun zz1 zz2 => False)
    (wpAny_call_entry F.ks_slot_super_ga (hT _) F.ks_entry_super_ga (super_ga hC hso hno fun a h' x y z => ⟨_, rfl, a, h', rfl, rfl, x, y, z⟩) (F.ks_gaArgs_super _ _)) (fun v s' hv => ?_) fun zz1 zz2 z => z.elim
  obtain ⟨a, h', rfl, rfl, x, y, z⟩ := hv
  first | exact wpAny_pure (wpAny_pure (hq a h' _ x y z)) | exact wpAny_pure (hq a h' _ x y z)
end
end Mine


set_option pp.deepTerms false
set_option pp.deepTerms.threshold 3

namespace Mine
open PySem PyProof.Rows PySem.Builtin

section
variable {prog : Program} {w : World} {A : Around} {E : Value → Shared → Prop} {h : Heap} {g : Array GenState} {d : Drawn} {t : Nat} {os : OsState} {s : Shared}

theorem st_turned {M : Model} {bs : List Value} {Q : Unit → Shared → Prop} (e : bs = [.type "object"]) (hq : Q () s) : wpAny M A (notOverATurnedClass bs) Q E s := by subst e; exact wpAny_of_eq ck_turned hq
theorem st_extended {M : Model} {bs : List Value} {Q : Value → Shared → Prop} (e : bs = [.type "object"]) (hq : Q (.type "object") s) : wpAny M A (extendedBase bs) Q E s := by subst e; exact wpAny_of_eq ck_extended hq
theorem st_read {bs : List Value} {nm : Str} {es : Array DictEntry} {sl : Addr} {tk : Tok} {Q : Slots.Plan → Shared → Prop} (e : bs = [.type "object"]) (en : nm = "K") (hf : nsFind es "__slots__" = some (.ref sl)) (hsl : h.get? sl = some { cls := .type "list", data := .seq #[.str "obj" tk] })
    (ho : nsFind es "obj" = none) (hq : ∀ h', (∀ b o', h.get? b = some o' → h'.get? b = some o') → Q { names := ["obj"], dict := false, weak := false, inherited := [] } ⟨h', g, d, t, os⟩) :
    wpAny (model prog w) A (Slots.read nm bs es) Q E ⟨h, g, d, t, os⟩ := by subst e en; exact slots_read hf hsl ho hq

theorem ns_get_eq {M : Model} {a : Addr} {m : Str → Option Value} {name : Str} {v : Option Value} {Q : Option Value → Shared → Prop} (hn : h.Ns1 a m) (e : m name = v) (hq : Q v ⟨h, g, d, t, os⟩) : wpAny M A (nsGet a name) Q E ⟨h, g, d, t, os⟩ := ns_get hn (e ▸ hq)
theorem gen_heap {α : Type} {M : Model} {T : Sem α} {Q : α → Shared → Prop} {H : Heap} (P : Heap → Prop) (hP : P H) (hq : ∀ h2, P h2 → wpAny M A T Q E ⟨h2, g, d, t, os⟩) : wpAny M A T Q E ⟨H, g, d, t, os⟩ := hq H hP
theorem m_del {m : Str → Option Value} {x n : Str} {v : Option Value} (hne : (x == n) = false) (e : m x = v) : (fun x => if x = n then none else m x) x = v := by
  show (if x = n then none else m x) = v
  rw [if_neg (by simpa using hne)]; exact e
noncomputable def km6 (m : Str → Option Value) (dsc : Addr) : Str → Option Value := fun x => if x = "obj" then some (.ref dsc) else if x = "__qualname__" then none else m x
noncomputable def km7 (m : Str → Option Value) (dsc : Addr) : Str → Option Value := fun x => if x = "__doc__" then some .none else km6 m dsc x
theorem km6_get {m : Str → Option Value} {dsc : Addr} {x : Str} {v : Option Value} (h1 : (x == "obj") = false) (h2 : (x == "__qualname__") = false) (e : m x = v) : km6 m dsc x = v := by
  unfold km6; rw [if_neg (by simpa using h1), if_neg (by simpa using h2)]; exact e
theorem km7_get {m : Str → Option Value} {dsc : Addr} {x : Str} {v : Option Value} (h0 : (x == "__doc__") = false) (h1 : (x == "obj") = false) (h2 : (x == "__qualname__") = false) (e : m x = v) : km7 m dsc x = v := by
  unfold km7; rw [if_neg (by simpa using h0)]; exact km6_get h1 h2 e
theorem sn_str : typeLookup (.type "str") "__set_name__" = pure none := by kernel_rfl
theorem sn_int : typeLookup (.type "int") "__set_name__" = pure none := by kernel_rfl
theorem sn_list : typeLookup (.type "list") "__set_name__" = pure none := by kernel_rfl
theorem sn_fun : typeLookup (.type "function") "__set_name__" = pure none := by kernel_rfl
theorem sn_tup : typeLookup (.type "tuple") "__set_name__" = pure none := by kernel_rfl
theorem sn_none : typeLookup (.type "NoneType") "__set_name__" = pure none := by kernel_rfl
theorem sn_md : typeLookup (.type "member_descriptor") "__set_name__" = pure none := by kernel_rfl
/- a value without __set_name__ -/
noncomputable def Quiet (h : Heap) (v : Value) : Prop := ∃ T, (match v with | .ref a => ∃ o, h.get? a = some o ∧ o.cls = .type T | .builtin _ => False | v => typeOf v = pure (.type T)) ∧ typeLookup (.type T) "__set_name__" = pure none
theorem Quiet.keep {h h' : Heap} {v : Value} (q : Quiet h v) (k : ∀ b o, h.get? b = some o → h'.get? b = some o) : Quiet h' v := by
  obtain ⟨T, x, y⟩ := q
  refine ⟨T, ?_, y⟩
  cases v with
  | ref a => obtain ⟨o, a, b⟩ := x; exact ⟨o, k _ _ a, b⟩
  | _ => exact x
theorem Quiet.typeIs {v : Value} (q : Quiet h v) : ∃ T, (⟨h, g, d, t, os⟩ : Shared).TypeIs v T ∧ typeLookup (.type T) "__set_name__" = pure none := by
  obtain ⟨T, x, y⟩ := q
  refine ⟨T, ?_, y⟩
  cases v with
  | builtin i => exact x.elim
  | _ => exact x
theorem Quiet.held {v : Value} (q : Quiet h v) (n : Str) (tk : Tok) : laidUnderItsOwnName (.str n tk) v = false := by
  obtain ⟨T, x, y⟩ := q
  cases v with
  | builtin i => exact x.elim
  | _ => rfl
noncomputable abbrev descObj (C : Addr) (tk : Tok) : Obj := { cls := .type "member_descriptor", data := .fields #[.str "obj" tk, .ref C, .builtin "proto.slot", .builtin "proto.slot#set", rawInt 0] }
theorem km7_quiet {m : Str → Option Value} {dsc C : Addr} {tk : Tok} (hq : ∀ n v, m n = some v → Quiet h v) (hd : h.get? dsc = some (descObj C tk)) : ∀ n v, km7 m dsc n = some v → Quiet h v := by
  intro n v e
  unfold km7 km6 at e
  split at e
  · cases e; exact ⟨"NoneType", by rfl, sn_none⟩
  split at e
  · cases e; exact ⟨"member_descriptor", ⟨_, hd, rfl⟩, sn_md⟩
  split at e
  · cases e
  exact hq n v e
theorem st_for1 {M : Model} {α : Type} {bs : List Value} {b : α} {f : Value → α → Sem (ForInStep α)} {Q : α → Shared → Prop} (e : bs = [.type "object"]) (hf : f (.type "object") b = pure (.yield b)) (hq : Q b s) : wpAny M A (forIn bs b f) Q E s := by
  subst e
  rw [List.forIn_cons, hf, pure_bind]
  show wpAny M A (forIn [] b f) Q E s
  rw [List.forIn_nil]
  exact wpAny_pure hq
theorem nsFind_some {es : Array DictEntry} {n : Str} (h : (nsFind es n).isSome = true) : es.any (·.key.isStr n) = true := by
  cases q : es.any (·.key.isStr n) with
  | true => rfl
  | false =>
    rw [Array.any_eq_false'] at q
    unfold nsFind findBy at h
    rw [Option.isSome_map, Array.find?_isSome] at h
    obtain ⟨e, he, hx⟩ := h
    exact absurd hx (q e he)
theorem st_linearize {M : Model} {bs : List Value} {Q : List Value → Shared → Prop} (e : bs = [.type "object"]) (hq : Q [.type "object"] s) : wpAny M A (linearize bs mroOf) Q E s := by subst e; exact wpAny_of_eq ck_linearize hq
theorem st_anyM {M : Model} {l : List Value} {f : Value → Sem Bool} {Q : Bool → Shared → Prop} (e : l = [.type "object"]) (hf : f (.type "object") = pure false) (hq : Q false s) : wpAny M A (l.anyM f) Q E s := by
  subst e
  have : [Value.type "object"].anyM f = pure false := by simp only [List.anyM, hf, pure_bind]
  rw [this]; exact wpAny_pure hq
theorem fil_self {C : Addr} : ([Value.ref C, .type "object"].filter fun x => x != .ref C) = [.type "object"] := by
  rw [List.filter_cons_of_neg (by simp), List.filter_cons_of_pos (by rfl)]; rfl
set_option maxHeartbeats 4000000 in
theorem type_new {nsA bT sl : Addr} {tk tk' tq : Tok} {m : Str → Option Value} {oN : Obj} {nm qn : Str} {Q : PySem.Fin → Shared → Prop}
    (hb : h.get? bT = some { cls := .type "tuple", data := .seq #[.type "object"] })
    (hn : h.Ns1 nsA m) (hnso : h.get? nsA = some oN) (hnc : oN.cls = .type "dict") (hnd : (nsA == sysModules) = false)
    (hslv : m "__slots__" = some (.ref sl)) (hsl : h.get? sl = some { cls := .type "list", data := .seq #[.str "obj" tk'] })
    (hobj : m "obj" = none) (L : List Str) (hL : ∀ n, m n ≠ none → n ∈ L) (hl : L.length ≤ 99) (hmod : (m "__module__").isSome = true) (hq : m "__qualname__" = some (.str qn tq)) (hdoc : m "__doc__" = none) (hnew : m "__new__" = none) (his : m "__init_subclass__" = none) (hcg : m "__class_getitem__" = none)
    (hcc : m "__classcell__" = none) (hcd : m "__classdictcell__" = none) (heq : (m "__eq__").isSome = true) (hhash : (m "__hash__").isSome = true) (hdel : m "__del__" = none)
    (hnm : nm = "K") (hqn : qn = "cmp_to_key.<locals>.K") (hqv : ∀ n v, m n = some v → Quiet h v) (hno : ∀ C, Looks (model prog w) h (opaqueClassAbove (.ref C)) none)
    (hQ : ∀ C N dsc tkd h' t', h.get? C = none → h.get? N = none → h.get? dsc = none → h'.get? C = some (kObj C N "cmp_to_key.<locals>.K" (some (.ref bT)) (some (.str "K" tk)) (some (.str "cmp_to_key.<locals>.K" tq))) →
      h'.Ns1 N (km7 m dsc) → h'.get? dsc = some (descObj C tkd) → (∀ b o, h.get? b = some o → h'.get? b = some o) → Q (.done (.ret (.ref C))) ⟨h', g, d, t', os⟩) :
    wpAny (model prog w) A (Builtin.«type.__new__» ⟨[.type "type", .str nm tk, .ref bT, .ref nsA], []⟩) Q E ⟨h, g, d, t, os⟩ := by
  subst hnm
  obtain ⟨o, es, ep, ho, hd, hk, hu, hm⟩ := id hn
  have hbT : (⟨h, g, d, t, os⟩ : Shared).TypeIs (.ref bT) "tuple" := ⟨_, hb, rfl⟩
  have hnT : (⟨h, g, d, t, os⟩ : Shared).TypeIs (.ref nsA) "dict" := ⟨_, hnso, hnc⟩
  have e1 := ck_sub_tup
  have e2 := ck_sub_dict
  have e3 := ck_sub_tt
  have e4 := ck_typeOfObject
  have e7 := ck_diter
  unfold Builtin.«type.__new__»
  iterate 46 (first | with_reducible (first | refine wpAny_pure ?_ | refine wpAny_bind ?_ | refine wpAny_holding ?_ | refine wpAny_rule ?_ | refine wpAny_mkInt' ?_ | (refine Mine.mkStrK ?_ ?_; focus (size_fits; done)) | refine wpAny_fresh' ?_ | refine wpAny_alloc' ?_ | refine wpAny_of_eq (by assumption) ?_ | refine wpAny_typeOf (by assumption) ?_ | refine wpAny_isInstance (by assumption) (by assumption) ?_) | ((with_reducible refine Mine.at_load ?_); (with_reducible apply wpAny_load'); focus (heap_get; done)) | ((with_reducible refine Mine.at_loadPart ?_); (with_reducible apply wpAny_loadPart'); focus (heap_get; done)) | ((with_reducible refine Mine.at_updatePart ?_); (with_reducible apply wpAny_updatePart'); focus (heap_get; done)) | ((with_reducible refine Mine.at_update ?_); (with_reducible apply wpAny_update'); focus (heap_get; done)) | ((with_reducible refine wpAny_ite_false ?_ ?_); focus (rfl; done)) | ((with_reducible refine wpAny_ite_true ?_ ?_); focus (rfl; done)) | wp_delta)
  refine st_turned ?_ ?_
  · rfl
  (first | with_reducible (first | refine wpAny_pure ?_ | refine wpAny_bind ?_ | refine wpAny_holding ?_ | refine wpAny_rule ?_ | refine wpAny_mkInt' ?_ | (refine Mine.mkStrK ?_ ?_; focus (size_fits; done)) | refine wpAny_fresh' ?_ | refine wpAny_alloc' ?_ | refine wpAny_of_eq (by assumption) ?_ | refine wpAny_typeOf (by assumption) ?_ | refine wpAny_isInstance (by assumption) (by assumption) ?_) | ((with_reducible refine Mine.at_load ?_); (with_reducible apply wpAny_load'); focus (heap_get; done)) | ((with_reducible refine Mine.at_loadPart ?_); (with_reducible apply wpAny_loadPart'); focus (heap_get; done)) | ((with_reducible refine Mine.at_updatePart ?_); (with_reducible apply wpAny_updatePart'); focus (heap_get; done)) | ((with_reducible refine Mine.at_update ?_); (with_reducible apply wpAny_update'); focus (heap_get; done)) | ((with_reducible refine wpAny_ite_false ?_ ?_); focus (rfl; done)) | ((with_reducible refine wpAny_ite_true ?_ ?_); focus (rfl; done)) | wp_delta)
  refine st_extended ?_ ?_
  · rfl
  have hnd' : decide ((nsA == sysModules) = true) = false := decide_eq_false (by rw [hnd]; exact Bool.false_ne_true)
  repeat (first | (with_reducible refine wpAny_ite_false hnd' ?_) | (with_reducible refine wpAny_dictEntries ho hd ?_) | (first | with_reducible (first | refine wpAny_pure ?_ | refine wpAny_bind ?_ | refine wpAny_holding ?_ | refine wpAny_rule ?_ | refine wpAny_mkInt' ?_ | (refine Mine.mkStrK ?_ ?_; focus (size_fits; done)) | refine wpAny_fresh' ?_ | refine wpAny_alloc' ?_ | refine wpAny_of_eq (by assumption) ?_ | refine wpAny_typeOf (by assumption) ?_ | refine wpAny_isInstance (by assumption) (by assumption) ?_) | ((with_reducible refine Mine.at_load ?_); (with_reducible apply wpAny_load'); focus (heap_get; done)) | ((with_reducible refine Mine.at_loadPart ?_); (with_reducible apply wpAny_loadPart'); focus (heap_get; done)) | ((with_reducible refine Mine.at_updatePart ?_); (with_reducible apply wpAny_updatePart'); focus (heap_get; done)) | ((with_reducible refine Mine.at_update ?_); (with_reducible apply wpAny_update'); focus (heap_get; done)) | ((with_reducible refine wpAny_ite_false ?_ ?_); focus (rfl; done)) | ((with_reducible refine wpAny_ite_true ?_ ?_); focus (rfl; done)) | wp_delta))
  refine wpAny_ite_true (decide_eq_true (Bool.or_eq_true_iff.mpr (.inr (beq_self_eq_true _)))) ?_
  iterate 3 (first | with_reducible (first | refine wpAny_pure ?_ | refine wpAny_bind ?_ | refine wpAny_holding ?_ | refine wpAny_rule ?_ | refine wpAny_mkInt' ?_ | (refine Mine.mkStrK ?_ ?_; focus (size_fits; done)) | refine wpAny_fresh' ?_ | refine wpAny_alloc' ?_ | refine wpAny_of_eq (by assumption) ?_ | refine wpAny_typeOf (by assumption) ?_ | refine wpAny_isInstance (by assumption) (by assumption) ?_) | ((with_reducible refine Mine.at_load ?_); (with_reducible apply wpAny_load'); focus (heap_get; done)) | ((with_reducible refine Mine.at_loadPart ?_); (with_reducible apply wpAny_loadPart'); focus (heap_get; done)) | ((with_reducible refine Mine.at_updatePart ?_); (with_reducible apply wpAny_updatePart'); focus (heap_get; done)) | ((with_reducible refine Mine.at_update ?_); (with_reducible apply wpAny_update'); focus (heap_get; done)) | ((with_reducible refine wpAny_ite_false ?_ ?_); focus (rfl; done)) | ((with_reducible refine wpAny_ite_true ?_ ?_); focus (rfl; done)) | wp_delta)
  (first | with_reducible (first | refine wpAny_pure ?_ | refine wpAny_bind ?_ | refine wpAny_holding ?_ | refine wpAny_rule ?_ | refine wpAny_mkInt' ?_ | (refine Mine.mkStrK ?_ ?_; focus (size_fits; done)) | refine wpAny_fresh' ?_ | refine wpAny_alloc' ?_ | refine wpAny_of_eq (by assumption) ?_ | refine wpAny_typeOf (by assumption) ?_ | refine wpAny_isInstance (by assumption) (by assumption) ?_) | ((with_reducible refine Mine.at_load ?_); (with_reducible apply wpAny_load'); focus (heap_get; done)) | ((with_reducible refine Mine.at_loadPart ?_); (with_reducible apply wpAny_loadPart'); focus (heap_get; done)) | ((with_reducible refine Mine.at_updatePart ?_); (with_reducible apply wpAny_updatePart'); focus (heap_get; done)) | ((with_reducible refine Mine.at_update ?_); (with_reducible apply wpAny_update'); focus (heap_get; done)) | ((with_reducible refine wpAny_ite_false ?_ ?_); focus (rfl; done)) | ((with_reducible refine wpAny_ite_true ?_ ?_); focus (rfl; done)) | wp_delta)
  refine st_read (sl := sl) (tk := tk') ?_ rfl ((hm _).trans hslv) hsl ((hm _).trans hobj) ?_
  · rfl
  intro h1 k1
  (first | with_reducible (first | refine wpAny_pure ?_ | refine wpAny_bind ?_ | refine wpAny_holding ?_ | refine wpAny_rule ?_ | refine wpAny_mkInt' ?_ | (refine Mine.mkStrK ?_ ?_; focus (size_fits; done)) | refine wpAny_fresh' ?_ | refine wpAny_alloc' ?_ | refine wpAny_of_eq (by assumption) ?_ | refine wpAny_typeOf (by assumption) ?_ | refine wpAny_isInstance (by assumption) (by assumption) ?_) | ((with_reducible refine Mine.at_load ?_); (with_reducible apply wpAny_load'); focus (heap_get; done)) | ((with_reducible refine Mine.at_loadPart ?_); (with_reducible apply wpAny_loadPart'); focus (heap_get; done)) | ((with_reducible refine Mine.at_updatePart ?_); (with_reducible apply wpAny_updatePart'); focus (heap_get; done)) | ((with_reducible refine Mine.at_update ?_); (with_reducible apply wpAny_update'); focus (heap_get; done)) | ((with_reducible refine wpAny_ite_false ?_ ?_); focus (rfl; done)) | ((with_reducible refine wpAny_ite_true ?_ ?_); focus (rfl; done)) | wp_delta)
  have hes : es.size ≤ 99 := Nat.le_trans (ns_few hn L hL o es ep ho hd) hl
  refine wpAny_newObj_type ?_ (by show es.size ≤ sizeLine + 1; have : (99 : Nat) < sizeLine := by decide
                                  (first | lia | omega))
  dsimp (config := {zeta := false, zetaHave := false}) only
  have hmodA : es.any (fun e => e.key.isStr "__module__") = true := nsFind_some (by rw [hm]; exact hmod)
  refine wpAny_ite_false (decide_eq_false fun z => by have z' : (!es.any (fun e => e.key.isStr "__module__")) = true := z; rw [hmodA] at z'; cases z') ?_
  have hN1 : (h1.push { cls := .type "dict", data := .dict es }).Ns1 h1.objs.size m := ⟨_, es, _, Heap.get?_push_size _ rfl, rfl, hk, hu, hm⟩
  repeat (first | with_reducible (first | refine wpAny_pure ?_ | refine wpAny_bind ?_ | refine wpAny_holding ?_ | refine wpAny_rule ?_ | refine wpAny_mkInt' ?_ | (refine Mine.mkStrK ?_ ?_; focus (size_fits; done)) | refine wpAny_fresh' ?_ | refine wpAny_alloc' ?_ | refine wpAny_of_eq (by assumption) ?_ | refine wpAny_typeOf (by assumption) ?_ | refine wpAny_isInstance (by assumption) (by assumption) ?_) | ((with_reducible refine Mine.at_load ?_); (with_reducible apply wpAny_load'); focus (heap_get; done)) | ((with_reducible refine Mine.at_loadPart ?_); (with_reducible apply wpAny_loadPart'); focus (heap_get; done)) | ((with_reducible refine Mine.at_updatePart ?_); (with_reducible apply wpAny_updatePart'); focus (heap_get; done)) | ((with_reducible refine Mine.at_update ?_); (with_reducible apply wpAny_update'); focus (heap_get; done)) | ((with_reducible refine wpAny_ite_false ?_ ?_); focus (rfl; done)) | ((with_reducible refine wpAny_ite_true ?_ ?_); focus (rfl; done)) | wp_delta)
  refine wpAny_ite_false (by decide +kernel) ?_
  (first | with_reducible (first | refine wpAny_pure ?_ | refine wpAny_bind ?_ | refine wpAny_holding ?_ | refine wpAny_rule ?_ | refine wpAny_mkInt' ?_ | (refine Mine.mkStrK ?_ ?_; focus (size_fits; done)) | refine wpAny_fresh' ?_ | refine wpAny_alloc' ?_ | refine wpAny_of_eq (by assumption) ?_ | refine wpAny_typeOf (by assumption) ?_ | refine wpAny_isInstance (by assumption) (by assumption) ?_) | ((with_reducible refine Mine.at_load ?_); (with_reducible apply wpAny_load'); focus (heap_get; done)) | ((with_reducible refine Mine.at_loadPart ?_); (with_reducible apply wpAny_loadPart'); focus (heap_get; done)) | ((with_reducible refine Mine.at_updatePart ?_); (with_reducible apply wpAny_updatePart'); focus (heap_get; done)) | ((with_reducible refine Mine.at_update ?_); (with_reducible apply wpAny_update'); focus (heap_get; done)) | ((with_reducible refine wpAny_ite_false ?_ ?_); focus (rfl; done)) | ((with_reducible refine wpAny_ite_true ?_ ?_); focus (rfl; done)) | wp_delta)
  refine wpAny_ite_false ?_ ?_
  · decide +kernel
  iterate 28 (first | (with_reducible refine ns_get_eq hN1 hq ?_) | (with_reducible refine ns_get_eq hN1 hdoc ?_) | (first | with_reducible (first | refine wpAny_pure ?_ | refine wpAny_bind ?_ | refine wpAny_holding ?_ | refine wpAny_rule ?_ | refine wpAny_mkInt' ?_ | (refine Mine.mkStrK ?_ ?_; focus (size_fits; done)) | refine wpAny_fresh' ?_ | refine wpAny_alloc' ?_ | refine wpAny_of_eq (by assumption) ?_ | refine wpAny_typeOf (by assumption) ?_ | refine wpAny_isInstance (by assumption) (by assumption) ?_) | ((with_reducible refine Mine.at_load ?_); (with_reducible apply wpAny_load'); focus (heap_get; done)) | ((with_reducible refine Mine.at_loadPart ?_); (with_reducible apply wpAny_loadPart'); focus (heap_get; done)) | ((with_reducible refine Mine.at_updatePart ?_); (with_reducible apply wpAny_updatePart'); focus (heap_get; done)) | ((with_reducible refine Mine.at_update ?_); (with_reducible apply wpAny_update'); focus (heap_get; done)) | ((with_reducible refine wpAny_ite_false ?_ ?_); focus (rfl; done)) | ((with_reducible refine wpAny_ite_true ?_ ?_); focus (rfl; done)) | wp_delta))
  have hCN : (h1.push { cls := .type "dict", data := .dict es }).objs.size ≠ h1.objs.size := by rw [Heap.size_push]; exact Nat.succ_ne_self _
  refine gen_heap (fun h2 => h2.get? (h1.push { cls := .type "dict", data := .dict es }).objs.size = some { cls := .type "type", data := .cls { name := "K", bases := [.type "object"], mro := [], ns := h1.objs.size, qualname := qn }, slots := #[some (.ref bT), none, some (.str "K" tk), some (.str qn tq)] } ∧
    h2.Ns1 h1.objs.size m ∧ ∀ b o, h.get? b = some o → h2.get? b = some o) ⟨?_, ?_, ?_⟩ ?_
  · exact upd3 (o1 := { cls := .type "type", data := .cls { name := "K", bases := [.type "object"], mro := [], ns := h1.objs.size, qualname := qn }, slots := #[some (.ref bT)] })
      (o2 := { cls := .type "type", data := .cls { name := "K", bases := [.type "object"], mro := [], ns := h1.objs.size, qualname := qn }, slots := #[some (.ref bT), none, some (.str "K" tk)] }) (Heap.get?_push_size _ rfl) rfl rfl rfl rfl rfl rfl
  · exact hN1.at fun o e => upd3_ne hCN (Heap.get?_push_of_some _ e)
  · intro b o e
    have e1 := Heap.get?_push_of_some { cls := .type "dict", data := .dict es } (k1 b o e)
    have hb : (h1.push { cls := .type "dict", data := .dict es }).objs.size ≠ b := Nat.ne_of_gt (Heap.lt_size e1)
    exact upd3_ne hb (Heap.get?_push_of_some _ e1)
  rintro h2 ⟨hC2, hN2, hk2⟩
  refine ns_del hN2 ?_
  intro h3 hN3 s3
  have hC3 := (s3.2 _ hCN).trans hC2
  have e10 := ck_mroHook
  have e11 := ck_linearize
  have e12 := ck_madeBy
  iterate 6 (first | (with_reducible refine ns_get_eq hN3 (m_del (by decide +kernel) hnew) ?_) | (first | with_reducible (first | refine wpAny_pure ?_ | refine wpAny_bind ?_ | refine wpAny_holding ?_ | refine wpAny_rule ?_ | refine wpAny_mkInt' ?_ | (refine Mine.mkStrK ?_ ?_; focus (size_fits; done)) | refine wpAny_fresh' ?_ | refine wpAny_alloc' ?_ | refine wpAny_of_eq (by assumption) ?_ | refine wpAny_typeOf (by assumption) ?_ | refine wpAny_isInstance (by assumption) (by assumption) ?_) | ((with_reducible refine Mine.at_load ?_); (with_reducible apply wpAny_load'); focus (heap_get; done)) | ((with_reducible refine Mine.at_loadPart ?_); (with_reducible apply wpAny_loadPart'); focus (heap_get; done)) | ((with_reducible refine Mine.at_updatePart ?_); (with_reducible apply wpAny_updatePart'); focus (heap_get; done)) | ((with_reducible refine Mine.at_update ?_); (with_reducible apply wpAny_update'); focus (heap_get; done)) | ((with_reducible refine wpAny_ite_false ?_ ?_); focus (rfl; done)) | ((with_reducible refine wpAny_ite_true ?_ ?_); focus (rfl; done)) | wp_delta))
  iterate 21 (first | (with_reducible refine ns_get_eq hN3 (m_del (by decide +kernel) his) ?_) | (with_reducible refine ns_get_eq hN3 (m_del (by decide +kernel) hcg) ?_) | (with_reducible refine ns_get_eq hN3 (m_del (by decide +kernel) hcc) ?_) | (with_reducible refine ns_get_eq hN3 (m_del (by decide +kernel) hcd) ?_) | (first | with_reducible (first | refine wpAny_pure ?_ | refine wpAny_bind ?_ | refine wpAny_holding ?_ | refine wpAny_rule ?_ | refine wpAny_mkInt' ?_ | (refine Mine.mkStrK ?_ ?_; focus (size_fits; done)) | refine wpAny_fresh' ?_ | refine wpAny_alloc' ?_ | refine wpAny_of_eq (by assumption) ?_ | refine wpAny_typeOf (by assumption) ?_ | refine wpAny_isInstance (by assumption) (by assumption) ?_) | ((with_reducible refine Mine.at_load ?_); (with_reducible apply wpAny_load'); focus (heap_get; done)) | ((with_reducible refine Mine.at_loadPart ?_); (with_reducible apply wpAny_loadPart'); focus (heap_get; done)) | ((with_reducible refine Mine.at_updatePart ?_); (with_reducible apply wpAny_updatePart'); focus (heap_get; done)) | ((with_reducible refine Mine.at_update ?_); (with_reducible apply wpAny_update'); focus (heap_get; done)) | ((with_reducible refine wpAny_ite_false ?_ ?_); focus (rfl; done)) | ((with_reducible refine wpAny_ite_true ?_ ?_); focus (rfl; done)) | wp_delta))
  refine st_linearize ?_ ?_
  · rfl
  iterate 3 (first | with_reducible (first | refine wpAny_pure ?_ | refine wpAny_bind ?_ | refine wpAny_holding ?_ | refine wpAny_rule ?_ | refine wpAny_mkInt' ?_ | (refine Mine.mkStrK ?_ ?_; focus (size_fits; done)) | refine wpAny_fresh' ?_ | refine wpAny_alloc' ?_ | refine wpAny_of_eq (by assumption) ?_ | refine wpAny_typeOf (by assumption) ?_ | refine wpAny_isInstance (by assumption) (by assumption) ?_) | ((with_reducible refine Mine.at_load ?_); (with_reducible apply wpAny_load'); focus (heap_get; done)) | ((with_reducible refine Mine.at_loadPart ?_); (with_reducible apply wpAny_loadPart'); focus (heap_get; done)) | ((with_reducible refine Mine.at_updatePart ?_); (with_reducible apply wpAny_updatePart'); focus (heap_get; done)) | ((with_reducible refine Mine.at_update ?_); (with_reducible apply wpAny_update'); focus (heap_get; done)) | ((with_reducible refine wpAny_ite_false ?_ ?_); focus (rfl; done)) | ((with_reducible refine wpAny_ite_true ?_ ?_); focus (rfl; done)) | wp_delta)
  refine st_anyM fil_self ?_ ?_
  · kernel_rfl
  iterate 12 (first | with_reducible (first | refine wpAny_pure ?_ | refine wpAny_bind ?_ | refine wpAny_holding ?_ | refine wpAny_rule ?_ | refine wpAny_mkInt' ?_ | (refine Mine.mkStrK ?_ ?_; focus (size_fits; done)) | refine wpAny_fresh' ?_ | refine wpAny_alloc' ?_ | refine wpAny_of_eq (by assumption) ?_ | refine wpAny_typeOf (by assumption) ?_ | refine wpAny_isInstance (by assumption) (by assumption) ?_) | ((with_reducible refine Mine.at_load ?_); (with_reducible apply wpAny_load'); focus (heap_get; done)) | ((with_reducible refine Mine.at_loadPart ?_); (with_reducible apply wpAny_loadPart'); focus (heap_get; done)) | ((with_reducible refine Mine.at_updatePart ?_); (with_reducible apply wpAny_updatePart'); focus (heap_get; done)) | ((with_reducible refine Mine.at_update ?_); (with_reducible apply wpAny_update'); focus (heap_get; done)) | ((with_reducible refine wpAny_ite_false ?_ ?_); focus (rfl; done)) | ((with_reducible refine wpAny_ite_true ?_ ?_); focus (rfl; done)) | wp_delta)
  iterate 6 ((first | with_reducible (first | refine wpAny_pure ?_ | refine wpAny_bind ?_ | refine wpAny_holding ?_ | refine wpAny_rule ?_ | refine wpAny_mkInt' ?_ | (refine Mine.mkStrK ?_ ?_; focus (size_fits; done)) | refine wpAny_fresh' ?_ | refine wpAny_alloc' ?_ | refine wpAny_of_eq (by assumption) ?_ | refine wpAny_typeOf (by assumption) ?_ | refine wpAny_isInstance (by assumption) (by assumption) ?_) | ((with_reducible refine Mine.at_load ?_); (with_reducible apply wpAny_load'); focus (heap_get; done)) | ((with_reducible refine Mine.at_loadPart ?_); (with_reducible apply wpAny_loadPart'); focus (heap_get; done)) | ((with_reducible refine Mine.at_updatePart ?_); (with_reducible apply wpAny_updatePart'); focus (heap_get; done)) | ((with_reducible refine Mine.at_update ?_); (with_reducible apply wpAny_update'); focus (heap_get; done)) | ((with_reducible refine wpAny_ite_false ?_ ?_); focus (rfl; done)) | ((with_reducible refine wpAny_ite_true ?_ ?_); focus (rfl; done)) | wp_delta))
  refine gen_heap (fun h4 => h4.get? (h1.push { cls := .type "dict", data := .dict es }).objs.size = some { cls := .type "type", data := .cls { name := "K", bases := [.type "object"], mro := [.ref (h1.push { cls := .type "dict", data := .dict es }).objs.size, .type "object"], ns := h1.objs.size, qualname := qn, hasDel := (es.any (fun e => e.key.isStr "__del__") || false) }, slots := #[some (.ref bT), none, some (.str "K" tk), some (.str qn tq), some (.builtin "object.__new__")] } ∧
    h4.Ns1 h1.objs.size (fun x => if x = "__qualname__" then none else m x) ∧ ∀ b o, h.get? b = some o → h4.get? b = some o) ⟨?_, ?_, ?_⟩ ?_
  · exact upd2 (o1 := { cls := .type "type", data := .cls { name := "K", bases := [.type "object"], mro := [.ref (h1.push { cls := .type "dict", data := .dict es }).objs.size, .type "object"], ns := h1.objs.size, qualname := qn, hasDel := (es.any (fun e => e.key.isStr "__del__") || false) }, slots := #[some (.ref bT), none, some (.str "K" tk), some (.str qn tq)] }) hC3 rfl rfl rfl rfl
  · exact hN3.at fun o e => upd2_ne hCN e
  · intro b o e
    have e2 := hk2 b o e
    have hb1 : h1.objs.size ≠ b := Nat.ne_of_gt (Heap.lt_size (k1 b o e))
    have hb2 : (h1.push { cls := .type "dict", data := .dict es }).objs.size ≠ b := by rw [Heap.size_push]; exact Nat.ne_of_gt (Nat.lt_succ_of_lt (Heap.lt_size (k1 b o e)))
    exact upd2_ne hb2 ((s3.2 _ hb1.symm).trans e2)
  rintro h4 ⟨hC4, hN4, hk4⟩
  have hdelA : es.any (fun e => e.key.isStr "__del__") = false := nsFind_any ((hm _).trans hdel)
  rw [hdelA, Bool.or_false] at hC4
  refine st_refresh hC4 rfl rfl hN4.ns rfl (m_del (by decide +kernel) hnew) ?_
  (first | with_reducible (first | refine wpAny_pure ?_ | refine wpAny_bind ?_ | refine wpAny_holding ?_ | refine wpAny_rule ?_ | refine wpAny_mkInt' ?_ | (refine Mine.mkStrK ?_ ?_; focus (size_fits; done)) | refine wpAny_fresh' ?_ | refine wpAny_alloc' ?_ | refine wpAny_of_eq (by assumption) ?_ | refine wpAny_typeOf (by assumption) ?_ | refine wpAny_isInstance (by assumption) (by assumption) ?_) | ((with_reducible refine Mine.at_load ?_); (with_reducible apply wpAny_load'); focus (heap_get; done)) | ((with_reducible refine Mine.at_loadPart ?_); (with_reducible apply wpAny_loadPart'); focus (heap_get; done)) | ((with_reducible refine Mine.at_updatePart ?_); (with_reducible apply wpAny_updatePart'); focus (heap_get; done)) | ((with_reducible refine Mine.at_update ?_); (with_reducible apply wpAny_update'); focus (heap_get; done)) | ((with_reducible refine wpAny_ite_false ?_ ?_); focus (rfl; done)) | ((with_reducible refine wpAny_ite_true ?_ ?_); focus (rfl; done)) | wp_delta)
  (first | with_reducible (first | refine wpAny_pure ?_ | refine wpAny_bind ?_ | refine wpAny_holding ?_ | refine wpAny_rule ?_ | refine wpAny_mkInt' ?_ | (refine Mine.mkStrK ?_ ?_; focus (size_fits; done)) | refine wpAny_fresh' ?_ | refine wpAny_alloc' ?_ | refine wpAny_of_eq (by assumption) ?_ | refine wpAny_typeOf (by assumption) ?_ | refine wpAny_isInstance (by assumption) (by assumption) ?_) | ((with_reducible refine Mine.at_load ?_); (with_reducible apply wpAny_load'); focus (heap_get; done)) | ((with_reducible refine Mine.at_loadPart ?_); (with_reducible apply wpAny_loadPart'); focus (heap_get; done)) | ((with_reducible refine Mine.at_updatePart ?_); (with_reducible apply wpAny_updatePart'); focus (heap_get; done)) | ((with_reducible refine Mine.at_update ?_); (with_reducible apply wpAny_update'); focus (heap_get; done)) | ((with_reducible refine wpAny_ite_false ?_ ?_); focus (rfl; done)) | ((with_reducible refine wpAny_ite_true ?_ ?_); focus (rfl; done)) | wp_delta)
  refine st_install ?_ hC4 rfl hN4 hCN (m_del (by decide +kernel) hobj) L (fun n hn => hL n fun z => hn ?_) (Nat.le_succ_of_le hl) rfl ?_
  · rfl
  · show (if n = "__qualname__" then none else m n) = none
    rw [z]; exact ite_self _
  intro h5 t5 dsc tkd hN5 hdsc hdn hC5 hk5
  have e13 := ck_givesWeak
  iterate 9 ((first | with_reducible (first | refine wpAny_pure ?_ | refine wpAny_bind ?_ | refine wpAny_holding ?_ | refine wpAny_rule ?_ | refine wpAny_mkInt' ?_ | (refine Mine.mkStrK ?_ ?_; focus (size_fits; done)) | refine wpAny_fresh' ?_ | refine wpAny_alloc' ?_ | refine wpAny_of_eq (by assumption) ?_ | refine wpAny_typeOf (by assumption) ?_ | refine wpAny_isInstance (by assumption) (by assumption) ?_) | ((with_reducible refine Mine.at_load ?_); (with_reducible apply wpAny_load'); focus (heap_get; done)) | ((with_reducible refine Mine.at_loadPart ?_); (with_reducible apply wpAny_loadPart'); focus (heap_get; done)) | ((with_reducible refine Mine.at_updatePart ?_); (with_reducible apply wpAny_updatePart'); focus (heap_get; done)) | ((with_reducible refine Mine.at_update ?_); (with_reducible apply wpAny_update'); focus (heap_get; done)) | ((with_reducible refine wpAny_ite_false ?_ ?_); focus (rfl; done)) | ((with_reducible refine wpAny_ite_true ?_ ?_); focus (rfl; done)) | wp_delta))
  refine gen_heap (fun h6 => h6.get? (h1.push { cls := .type "dict", data := .dict es }).objs.size = some { cls := .type "type", data := .cls { name := "K", bases := [.type "object"], mro := [.ref (h1.push { cls := .type "dict", data := .dict es }).objs.size, .type "object"], ns := h1.objs.size, qualname := qn, hasDict := false, slotNames := ["obj"], hasDel := false }, slots := #[some (.ref bT), none, some (.str "K" tk), some (.str qn tq), some (.builtin "object.__new__"), some (.bool false)] } ∧
    h6.Ns1 h1.objs.size (km6 m dsc) ∧
    h6.get? dsc = some { cls := .type "member_descriptor", data := .fields #[.str "obj" tkd, .ref (h1.push { cls := .type "dict", data := .dict es }).objs.size, .builtin "proto.slot", .builtin "proto.slot#set", rawInt 0] } ∧ ∀ b o, h.get? b = some o → h6.get? b = some o) ⟨?_, ?_, ?_, ?_⟩ ?_
  · exact Heap.get?_update_self _ hC5 rfl
  · exact hN5.at fun o e => Heap.get?_update_of_ne _ hCN e
  · refine Heap.get?_update_of_ne _ (fun z => ?_) hdsc
    rw [← z, hC4] at hdn; cases hdn
  · intro b o e
    have hb1 : h1.objs.size ≠ b := Nat.ne_of_gt (Heap.lt_size (k1 b o e))
    have hb2 : (h1.push { cls := .type "dict", data := .dict es }).objs.size ≠ b := by rw [Heap.size_push]; exact Nat.ne_of_gt (Nat.lt_succ_of_lt (Heap.lt_size (k1 b o e)))
    exact Heap.get?_update_of_ne _ hb2 (hk5 b o hb2.symm hb1.symm (hk4 b o e))
  rintro h6 ⟨hC6, hN6, hD6, hk6⟩
  refine ns_get_eq hN6 (km6_get (by decide +kernel) (by decide +kernel) hdoc) ?_
  iterate 2 ((first | with_reducible (first | refine wpAny_pure ?_ | refine wpAny_bind ?_ | refine wpAny_holding ?_ | refine wpAny_rule ?_ | refine wpAny_mkInt' ?_ | (refine Mine.mkStrK ?_ ?_; focus (size_fits; done)) | refine wpAny_fresh' ?_ | refine wpAny_alloc' ?_ | refine wpAny_of_eq (by assumption) ?_ | refine wpAny_typeOf (by assumption) ?_ | refine wpAny_isInstance (by assumption) (by assumption) ?_) | ((with_reducible refine Mine.at_load ?_); (with_reducible apply wpAny_load'); focus (heap_get; done)) | ((with_reducible refine Mine.at_loadPart ?_); (with_reducible apply wpAny_loadPart'); focus (heap_get; done)) | ((with_reducible refine Mine.at_updatePart ?_); (with_reducible apply wpAny_updatePart'); focus (heap_get; done)) | ((with_reducible refine Mine.at_update ?_); (with_reducible apply wpAny_update'); focus (heap_get; done)) | ((with_reducible refine wpAny_ite_false ?_ ?_); focus (rfl; done)) | ((with_reducible refine wpAny_ite_true ?_ ?_); focus (rfl; done)) | wp_delta))
  refine ns_set hN6 ?_
  intro h7 hN7' s7
  have hN7 : h7.Ns1 h1.objs.size (km7 m dsc) := hN7'
  clear hN7'
  have hC7 := (s7.2 _ hCN).trans hC6
  obtain ⟨oN4, _, _, hoN4, _⟩ := id hN4
  have hD7 := (s7.2 dsc (fun z => by rw [z, hoN4] at hdn; cases hdn)).trans hD6
  obtain ⟨ve, hve⟩ := Option.isSome_iff_exists.mp heq
  obtain ⟨vh, hvh⟩ := Option.isSome_iff_exists.mp hhash
  (first | with_reducible (first | refine wpAny_pure ?_ | refine wpAny_bind ?_ | refine wpAny_holding ?_ | refine wpAny_rule ?_ | refine wpAny_mkInt' ?_ | (refine Mine.mkStrK ?_ ?_; focus (size_fits; done)) | refine wpAny_fresh' ?_ | refine wpAny_alloc' ?_ | refine wpAny_of_eq (by assumption) ?_ | refine wpAny_typeOf (by assumption) ?_ | refine wpAny_isInstance (by assumption) (by assumption) ?_) | ((with_reducible refine Mine.at_load ?_); (with_reducible apply wpAny_load'); focus (heap_get; done)) | ((with_reducible refine Mine.at_loadPart ?_); (with_reducible apply wpAny_loadPart'); focus (heap_get; done)) | ((with_reducible refine Mine.at_updatePart ?_); (with_reducible apply wpAny_updatePart'); focus (heap_get; done)) | ((with_reducible refine Mine.at_update ?_); (with_reducible apply wpAny_update'); focus (heap_get; done)) | ((with_reducible refine wpAny_ite_false ?_ ?_); focus (rfl; done)) | ((with_reducible refine wpAny_ite_true ?_ ?_); focus (rfl; done)) | wp_delta)
  refine ns_get_eq hN7 (km7_get (by decide +kernel) (by decide +kernel) (by decide +kernel) hve) ?_
  iterate 2 ((first | with_reducible (first | refine wpAny_pure ?_ | refine wpAny_bind ?_ | refine wpAny_holding ?_ | refine wpAny_rule ?_ | refine wpAny_mkInt' ?_ | (refine Mine.mkStrK ?_ ?_; focus (size_fits; done)) | refine wpAny_fresh' ?_ | refine wpAny_alloc' ?_ | refine wpAny_of_eq (by assumption) ?_ | refine wpAny_typeOf (by assumption) ?_ | refine wpAny_isInstance (by assumption) (by assumption) ?_) | ((with_reducible refine Mine.at_load ?_); (with_reducible apply wpAny_load'); focus (heap_get; done)) | ((with_reducible refine Mine.at_loadPart ?_); (with_reducible apply wpAny_loadPart'); focus (heap_get; done)) | ((with_reducible refine Mine.at_updatePart ?_); (with_reducible apply wpAny_updatePart'); focus (heap_get; done)) | ((with_reducible refine Mine.at_update ?_); (with_reducible apply wpAny_update'); focus (heap_get; done)) | ((with_reducible refine wpAny_ite_false ?_ ?_); focus (rfl; done)) | ((with_reducible refine wpAny_ite_true ?_ ?_); focus (rfl; done)) | wp_delta))
  refine ns_get_eq hN7 (km7_get (by decide +kernel) (by decide +kernel) (by decide +kernel) hvh) ?_
  iterate 2 ((first | with_reducible (first | refine wpAny_pure ?_ | refine wpAny_bind ?_ | refine wpAny_holding ?_ | refine wpAny_rule ?_ | refine wpAny_mkInt' ?_ | (refine Mine.mkStrK ?_ ?_; focus (size_fits; done)) | refine wpAny_fresh' ?_ | refine wpAny_alloc' ?_ | refine wpAny_of_eq (by assumption) ?_ | refine wpAny_typeOf (by assumption) ?_ | refine wpAny_isInstance (by assumption) (by assumption) ?_) | ((with_reducible refine Mine.at_load ?_); (with_reducible apply wpAny_load'); focus (heap_get; done)) | ((with_reducible refine Mine.at_loadPart ?_); (with_reducible apply wpAny_loadPart'); focus (heap_get; done)) | ((with_reducible refine Mine.at_updatePart ?_); (with_reducible apply wpAny_updatePart'); focus (heap_get; done)) | ((with_reducible refine Mine.at_update ?_); (with_reducible apply wpAny_update'); focus (heap_get; done)) | ((with_reducible refine wpAny_ite_false ?_ ?_); focus (rfl; done)) | ((with_reducible refine wpAny_ite_true ?_ ?_); focus (rfl; done)) | wp_delta))
  refine st_for1 ?_ ?_ ?_
  · rfl
  · kernel_rfl
  refine wpAny_bind (wpAny_tryCatch (wpAny_holding ?_))
  obtain ⟨o7, es7, ep7, ho7, hd7, hk7, hu7, hm7⟩ := id hN7
  have hkk : ∀ b o, h.get? b = some o → h7.get? b = some o := fun b o e => (s7.2 b (Nat.ne_of_lt (Heap.lt_size (k1 b o e)))).trans (hk6 b o e)
  have hqv7 : ∀ e ∈ es7, Quiet h7 e.val := fun e he => by
    obtain ⟨n, tn, _, hv⟩ := ns_vals hk7 hu7 hm7 e he
    exact km7_quiet (fun n v x => (hqv n v x).keep hkk) hD7 n _ hv
  refine wpAny_bind (wpAny_dictEntries ho7 hd7 ?_)
  refine wpAny_bind (for_keep (fun e he Q' hQ' => ?_) ?_)
  · obtain ⟨n, tn, hkn⟩ := hk7 e he
    rw [hkn]
    repeat (first | with_reducible (first | refine wpAny_pure ?_ | refine wpAny_bind ?_ | refine wpAny_holding ?_ | refine wpAny_rule ?_ | refine wpAny_mkInt' ?_ | (refine Mine.mkStrK ?_ ?_; focus (size_fits; done)) | refine wpAny_fresh' ?_ | refine wpAny_alloc' ?_ | refine wpAny_of_eq (by assumption) ?_ | refine wpAny_typeOf (by assumption) ?_ | refine wpAny_isInstance (by assumption) (by assumption) ?_) | ((with_reducible refine Mine.at_load ?_); (with_reducible apply wpAny_load'); focus (heap_get; done)) | ((with_reducible refine Mine.at_loadPart ?_); (with_reducible apply wpAny_loadPart'); focus (heap_get; done)) | ((with_reducible refine Mine.at_updatePart ?_); (with_reducible apply wpAny_updatePart'); focus (heap_get; done)) | ((with_reducible refine Mine.at_update ?_); (with_reducible apply wpAny_update'); focus (heap_get; done)) | ((with_reducible refine wpAny_ite_false ?_ ?_); focus (rfl; done)) | ((with_reducible refine wpAny_ite_true ?_ ?_); focus (rfl; done)) | wp_delta)
    exact hQ'
  (first | with_reducible (first | refine wpAny_pure ?_ | refine wpAny_bind ?_ | refine wpAny_holding ?_ | refine wpAny_rule ?_ | refine wpAny_mkInt' ?_ | (refine Mine.mkStrK ?_ ?_; focus (size_fits; done)) | refine wpAny_fresh' ?_ | refine wpAny_alloc' ?_ | refine wpAny_of_eq (by assumption) ?_ | refine wpAny_typeOf (by assumption) ?_ | refine wpAny_isInstance (by assumption) (by assumption) ?_) | ((with_reducible refine Mine.at_load ?_); (with_reducible apply wpAny_load'); focus (heap_get; done)) | ((with_reducible refine Mine.at_loadPart ?_); (with_reducible apply wpAny_loadPart'); focus (heap_get; done)) | ((with_reducible refine Mine.at_updatePart ?_); (with_reducible apply wpAny_updatePart'); focus (heap_get; done)) | ((with_reducible refine Mine.at_update ?_); (with_reducible apply wpAny_update'); focus (heap_get; done)) | ((with_reducible refine wpAny_ite_false ?_ ?_); focus (rfl; done)) | ((with_reducible refine wpAny_ite_true ?_ ?_); focus (rfl; done)) | wp_delta)
  refine wpAny_bind (wpAny_dictEntries ho7 hd7 ?_)
  refine wpAny_bind (for_keep (fun e he Q' hQ' => ?_) ?_)
  · obtain ⟨n, tn, hkn⟩ := hk7 e he
    have hq1 := hqv7 e he
    obtain ⟨T, hT, hl⟩ := hq1.typeIs (g := g) (d := d) (t := t5 + 1) (os := os)
    refine wpAny_ite_false ?_ ?_
    · rw [hkn, hq1.held]; rfl
    refine wpAny_bind (wpAny_specialOf hT hl ?_)
    repeat (first | with_reducible (first | refine wpAny_pure ?_ | refine wpAny_bind ?_ | refine wpAny_holding ?_ | refine wpAny_rule ?_ | refine wpAny_mkInt' ?_ | (refine Mine.mkStrK ?_ ?_; focus (size_fits; done)) | refine wpAny_fresh' ?_ | refine wpAny_alloc' ?_ | refine wpAny_of_eq (by assumption) ?_ | refine wpAny_typeOf (by assumption) ?_ | refine wpAny_isInstance (by assumption) (by assumption) ?_) | ((with_reducible refine Mine.at_load ?_); (with_reducible apply wpAny_load'); focus (heap_get; done)) | ((with_reducible refine Mine.at_loadPart ?_); (with_reducible apply wpAny_loadPart'); focus (heap_get; done)) | ((with_reducible refine Mine.at_updatePart ?_); (with_reducible apply wpAny_updatePart'); focus (heap_get; done)) | ((with_reducible refine Mine.at_update ?_); (with_reducible apply wpAny_update'); focus (heap_get; done)) | ((with_reducible refine wpAny_ite_false ?_ ?_); focus (rfl; done)) | ((with_reducible refine wpAny_ite_true ?_ ?_); focus (rfl; done)) | wp_delta)
    exact hQ'
  subst hqn
  refine wpAny_bind (super_call hC7 ?_)
  intro so h8 hso hso8 hk8
  have hno8 : Looks (model prog w) h8 (opaqueClassAbove (.ref (h1.push { cls := .type "dict", data := .dict es }).objs.size)) none := (hno _).keeps fun b o e => hk8 b o (hkk b o e)
  refine wpAny_bind (wpAny_holding (super_attr (hk8 _ _ hC7) hso8 hno8 ?_))
  intro bf h9 t9 hbf hbf9 hk9
  refine wpAny_bind (isub_call (hk9 _ _ (hk8 _ _ hC7)) hbf9 ?_)
  repeat (first | with_reducible (first | refine wpAny_pure ?_ | refine wpAny_bind ?_ | refine wpAny_holding ?_ | refine wpAny_rule ?_ | refine wpAny_mkInt' ?_ | (refine Mine.mkStrK ?_ ?_; focus (size_fits; done)) | refine wpAny_fresh' ?_ | refine wpAny_alloc' ?_ | refine wpAny_of_eq (by assumption) ?_ | refine wpAny_typeOf (by assumption) ?_ | refine wpAny_isInstance (by assumption) (by assumption) ?_) | ((with_reducible refine Mine.at_load ?_); (with_reducible apply wpAny_load'); focus (heap_get; done)) | ((with_reducible refine Mine.at_loadPart ?_); (with_reducible apply wpAny_loadPart'); focus (heap_get; done)) | ((with_reducible refine Mine.at_updatePart ?_); (with_reducible apply wpAny_updatePart'); focus (heap_get; done)) | ((with_reducible refine Mine.at_update ?_); (with_reducible apply wpAny_update'); focus (heap_get; done)) | ((with_reducible refine wpAny_ite_false ?_ ?_); focus (rfl; done)) | ((with_reducible refine wpAny_ite_true ?_ ?_); focus (rfl; done)) | wp_delta)
  have fr : ∀ a, h1.objs.size ≤ a → h.get? a = none := fun a ha => by
    cases q : h.get? a with
    | none => rfl
    | some o => exact absurd (Heap.lt_size (k1 a o q)) (Nat.not_lt.mpr ha)
  refine hQ _ _ dsc _ h9 t9 (fr _ (by rw [Heap.size_push]; exact Nat.le_succ _)) (fr _ (Nat.le_refl _)) ?_ (hk9 _ _ (hk8 _ _ hC7)) (hN7.at fun o e => hk9 _ _ (hk8 _ _ e)) (hk9 _ _ (hk8 _ _ hD7)) fun b o e => hk9 _ _ (hk8 _ _ (hkk b o e))
  cases q : h.get? dsc with
  | none => rfl
  | some o => rw [hk4 _ _ q] at hdn; cases hdn
end
end Mine


open PySem PySem.W PyProof.Rows PySem.W.X
set_option maxHeartbeats 4000000
set_option pp.deepTerms false
set_option pp.deepTerms.threshold 3

namespace Mine
open PySem PyProof.Rows PySem.Builtin
section
variable {prog : Program} {w : World} {A : Around} {E : Value → Shared → Prop} {h : Heap} {g : Array GenState} {d : Drawn} {t : Nat} {os : OsState} {s : Shared}
theorem tn_check (b c : Addr) (n : Str) (tk : Tok) : checkBuiltinCall "type.__new__" ⟨[.type "type", .str n tk, .ref b, .ref c], []⟩ = pure () := by kernel_rfl
theorem ti_check (o b c : Addr) (n : Str) (tk : Tok) : argsOk "type.__init__" ⟨[.ref o, .str n tk, .ref b, .ref c], []⟩ := by unfold argsOk; kernel_rfl
theorem tc_check (b c : Addr) (n : Str) (tk : Tok) : checkTypeCall "type" ⟨[.str n tk, .ref b, .ref c], []⟩ = pure () := by kernel_rfl
theorem tn_plain : plainId "type.__new__" = true := by decide +kernel
theorem tn_entry : entryFor table "type.__new__" = some Builtin.«type.__new__» := entryFor_of_tree (by kernel_rfl)
theorem ti_entry : entryFor table "type.__init__" = some Builtin.«type.__init__» := entryFor_of_tree (by kernel_rfl)
theorem ti_slot : Slot "type" "__init__" "type.__init__" := .of (owner := "type") (n := "__init__") (by rw [typeLookup_type, builtinLookup_eq_fast]; kernel_rfl) (by decide +kernel) (by decide +kernel) (by decide +kernel)
  (by first | exact .inl (by decide +kernel) | exact .inr (by decide +kernel)) (by rw [isSubtype_type]; kernel_rfl)
theorem ti_run (o b c : Addr) (n : Str) (tk : Tok) : Builtin.«type.__init__» ⟨[.ref o, .str n tk, .ref b, .ref c], []⟩ = pure (.done (.ret .none)) := by kernel_rfl
theorem ty_mro : mroOf (.type "type") = pure [.type "type", .type "object"] := by rw [mroOf_type]; kernel_rfl

theorem type_call {bT nsA : Addr} {nm : Str} {tk : Tok} {P : Addr → Shared → Prop} {Q : Value → Shared → Prop}
    (hnew : ∀ (A' : Around) (Q' : PySem.Fin → Shared → Prop) (E' : Value → Shared → Prop), (∀ C s', P C s' → Q' (.done (.ret (.ref C))) s') → wpAny (model prog w) A' (Builtin.«type.__new__» ⟨[.type "type", .str nm tk, .ref bT, .ref nsA], []⟩) Q' E' s)
    (hT : ∀ C s', P C s' → s'.TypeIs (.ref C) "type") (hq : ∀ C s', P C s' → Q (.ref C) s') :
    wpAny (model prog w) A (call (.type "type") [.str nm tk, .ref bT, .ref nsA]) Q E s := by
  refine wpAny_call (codeAny_of_tree ?_)
  show wpAny _ _ (callAny (.type "type") _) _ _ _
  refine wpAny_pure ⟨Code.quiet_builtin _ (by decide +kernel), codeAny_builtin F.entry_type_call ?_⟩
  rw [Around.under_plain (weight_type_call_type "type" _ []) rfl]
  have e1 := tc_check bT nsA nm tk
  have e2 := ck_madeByT
  have e3 := ty_mro
  have e4 := ck_sub_tt
  repeat (any_goals (first | assumption | wp_step))
  have hcode : codeAny (model prog w) A.in1 (.call (.builtin "type.__new__") ⟨[.type "type", .str nm tk, .ref bT, .ref nsA], []⟩) (wants (fun v s1 => ∃ C, v = .ref C ∧ P C s1) (fun zz1 zz2 => False)) s := by
    refine codeAny_of_tree ?_
    show wpAny _ A.in1.in1 (do checkBuiltinCall "type.__new__" ⟨[.type "type", .str nm tk, .ref bT, .ref nsA], []⟩; again (.builtin "type.__new__" ⟨[.type "type", .str nm tk, .ref bT, .ref nsA], []⟩)) _ _ s
    refine wpAny_bind (wpAny_of_eq (tn_check bT nsA nm tk) (wpAny_pure ⟨plainId_quiet tn_plain _, codeAny_builtin tn_entry ?_⟩))
    rw [Around.under_plainId tn_plain _]
    exact hnew _ _ _ fun C s' hp => ⟨C, rfl, hp⟩
  refine codeAny_mono hcode fun r s₁ hr => ?_
  cases r with
  | error e => exact hr.elim
  | ok fl =>
    cases fl with
    | ret obj =>
      obtain ⟨C, rfl, hp⟩ := hr
      have hTC := hT C s₁ hp
      have hli := ti_slot.lookup
      have hbi := ti_slot.bind (.ref C)
      repeat (any_goals (first | assumption | wp_step))
      refine codeAny_mono (codeAny_call_builtin ti_slot.plain ti_entry (ti_slot.check _ _ _ _ _ _ _ _ hTC (ti_check C bT nsA nm tk) (wpAny_of_eq (ti_run C bT nsA nm tk) (show wants (fun r s₂ => r = .none ∧ s₂ = s₁) (fun zz1 zz2 => False) (.ok (.ret .none)) s₁ from ⟨rfl, rfl⟩)))) fun r₂ s₂ hr₂ => ?_
      cases r₂ with
      | error e => exact hr₂.elim
      | ok fl₂ =>
        cases fl₂ with
        | ret r =>
          obtain ⟨rfl, rfl⟩ := hr₂
          have := hq C _ hp
          repeat (any_goals (first | assumption | wp_step))
        | _ => exact hr₂.elim
    | _ => exact hr.elim
end
end Mine


open PySem PySem.W PyProof.Rows PySem.W.X
set_option maxHeartbeats 4000000
set_option pp.deepTerms false
set_option pp.deepTerms.threshold 3

namespace Mine
open PySem PyProof.Rows PySem.Builtin
section
variable {M : Model} {A : Around} {E : Value → Shared → Prop} {h : Heap} {g : Array GenState} {d : Drawn} {t : Nat} {os : OsState} {s : Shared}

theorem codeAmong_more {pos : Pos} {c : Value} (a b : Nat) (l : List Value) (h : TriplesOk l) : codeAmong pos (l ++ [rawInt a, rawInt b, c]) = match codeAmong pos l with | some x => some x | none => if (a == pos.line && b == pos.col) = true then some c else none := by
  fun_induction TriplesOk l with
  | case1 =>
    have e1 : ((a : Int) = (pos.line : Int)) ↔ a = pos.line := by (first | lia | omega)
    have e2 : ((b : Int) = (pos.col : Int)) ↔ b = pos.col := by (first | lia | omega)
    simp [codeAmong, rawInt, e1, e2]
  | case2 a t b u x rest ih =>
    simp only [List.cons_append, codeAmong]
    split
    · rfl
    · exact ih h
  | case3 l h1 h2 => exact h.elim

/- a table whose codes are as q tells -/
noncomputable def TabQ (h : Heap) (P : Addr) (q : Nat → Nat → Str) : Prop :=
  ∃ ps, h.get? P = some (tabObj ps) ∧ TriplesOk ps.toList ∧ ∀ pos cv, codeAmong pos ps.toList = some cv → ∃ c', cv = .ref c' ∧ c' ≠ P ∧ h.CodeRec (.ref c') (q pos.line pos.col)
theorem TabQ.keep {h h' : Heap} {P : Addr} {q : Nat → Nat → Str} (x : TabQ h P q) (k : ∀ b o, h.get? b = some o → h'.get? b = some o) : TabQ h' P q := by
  obtain ⟨ps, a, b, c⟩ := x
  refine ⟨ps, k _ _ a, b, fun pos cv e => ?_⟩
  obtain ⟨c', e1, e2, e3⟩ := c pos cv e
  exact ⟨c', e1, e2, e3.keeps k⟩
theorem TabQ.empty {h : Heap} {P : Addr} {q : Nat → Nat → Str} (e : h.get? P = some (tabObj #[])) : TabQ h P q := ⟨#[], e, trivial, fun pos cv z => by cases z⟩
theorem codeRec_extBut {h h' : Heap} {P c : Addr} {q : Str} (x : h.CodeRec (.ref c) q) (hx : Heap.ExtBut P h h') (hc : c ≠ P) : h'.CodeRec (.ref c) q :=
  let ⟨c₂, o, vs, t, e, g, r⟩ := x; ⟨c₂, o, vs, t, e, hx _ _ (by cases e; exact hc) g, r⟩
theorem TabQ.grow {h h' : Heap} {P c : Addr} {ps : Array Value} {pos : Pos} {q : Nat → Nat → Str} (e : h.get? P = some (tabObj ps)) (ht : TriplesOk ps.toList) (hq : ∀ pos cv, codeAmong pos ps.toList = some cv → ∃ c', cv = .ref c' ∧ c' ≠ P ∧ h.CodeRec (.ref c') (q pos.line pos.col))
    (hx : Heap.ExtBut P h h') (e' : h'.get? P = some (tabObj (ps ++ #[rawInt pos.line, rawInt pos.col, .ref c]))) (hc : c ≠ P) (hr : h'.CodeRec (.ref c) (q pos.line pos.col)) : TabQ h' P q := by
  have hl : (ps ++ #[rawInt pos.line, rawInt pos.col, Value.ref c]).toList = ps.toList ++ [rawInt pos.line, rawInt pos.col, .ref c] := by simp
  refine ⟨_, e', by rw [hl]; exact TriplesOk_snoc _ _ _ _ ht, fun pos' cv z => ?_⟩
  rw [hl, codeAmong_more _ _ _ ht] at z
  cases y : codeAmong pos' ps.toList with
  | some x =>
    rw [y] at z; cases z
    obtain ⟨c', e1, e2, e3⟩ := hq pos' cv y
    exact ⟨c', e1, e2, codeRec_extBut e3 hx e2⟩
  | none =>
    rw [y] at z
    dsimp only at z
    split at z
    · rename_i w
      cases z
      simp only [Bool.and_eq_true, beq_iff_eq] at w
      refine ⟨c, rfl, hc, ?_⟩
      rw [← w.1, ← w.2]; exact hr
    · cases z

theorem mk_fn {name qual : Str} {params : Arguments} {body : List Stmt} {scope : Scope} {env : Env} {c P : Addr} {pos : Pos} {firstLine : Nat} {mg : Str → Option Value} {clos : List (Str × Addr)} {q : Nat → Nat → Str} {Q : Value → Shared → Prop}
    (hcl : closureFor scope env = pure clos) (hge0 : env.globals = mainGlobals) (hg : s.heap.Ns mainGlobals mg) (hcode : env.code = .ref c) (C : CodeHd s.heap c P) (T : TabQ s.heap P q) (hq : q pos.line pos.col = qual) (hgP : mainGlobals ≠ P) (hb : s.heap.BuiltinsAt mg P)
    (h : ∀ f c' ctv doc h' tk, Heap.ExtBut P s.heap h' → s.heap.get? f = none → TabQ h' P q → h'.get? f = some (fnMade name qual params body scope clos doc ((mg "__name__").getD .none) c' ctv) → h'.CodeRec (.ref c') qual → c' ≠ P → (s.heap.get? c' = none ∨ ∃ o, s.heap.get? c' = some o ∧ h'.get? c' = some o) →
      Q (.ref f) { s with heap := h', toks := tk }) :
    wpAny M A (makeFunction name qual params (.stmts body) scope env [] [] [] pos firstLine) Q E s := by
  obtain ⟨ps, e, ht, hqs⟩ := T
  have ePs : P < s.heap.objs.size := Heap.lt_size e
  have fr : ∀ a, s.heap.objs.size ≤ a → s.heap.get? a = none := fun a ha => by
    cases z : s.heap.get? a with
    | none => rfl
    | some o => exact absurd (Heap.lt_size z) (Nat.not_lt.mpr ha)
  cases y : codeAmong pos ps.toList with
  | none =>
    refine makeFunction_K hcl hge0 hg hcode C e ht y hgP hb fun c' ctv doc h' tk hx hge hlt hrec htb => ?_
    have hcP : c' ≠ P := Nat.ne_of_gt (Nat.lt_of_lt_of_le ePs hge)
    have up : ∀ o : Obj, ∀ b o', h'.get? b = some o' → (h'.push o).get? b = some o' := fun o b o' e => Heap.get?_push_of_some _ e
    refine h _ c' ctv doc _ tk (fun b o hb e => up _ _ _ (hx b o hb e)) (fr _ (Nat.le_of_lt (Nat.lt_of_le_of_lt hge hlt))) ?_ (Heap.get?_push_size _ rfl) (hrec.push _) hcP (.inl (fr _ hge))
    subst hq
    exact (TabQ.grow e ht hqs hx htb hcP hrec).keep (up _)
  | some cv =>
    obtain ⟨c', rfl, e2, e3⟩ := hqs pos _ y
    rw [hq] at e3
    refine makeFunction_hit hcl hge0 hg hcode C e ht y hb fun ctv doc h' tk k hsz => ?_
    have up : ∀ o : Obj, ∀ b o', s.heap.get? b = some o' → (h'.push o).get? b = some o' := fun o b o' e => Heap.get?_push_of_some _ (k _ _ e)
    obtain ⟨c₂, oc, _, _, ec, eo, _⟩ := id e3
    cases ec
    refine h _ c' ctv doc _ tk (fun b o zz1 e => up _ _ _ e) (fr _ hsz) ?_ (Heap.get?_push_size _ rfl) (e3.keeps (up _)) e2 (.inr ⟨oc, eo, up _ _ _ eo⟩)
    exact TabQ.keep ⟨ps, e, ht, hqs⟩ (up _)
end
end Mine


open PySem PySem.W PyProof.Rows PySem.W.X
set_option maxHeartbeats 4000000
set_option pp.deepTerms false
set_option pp.deepTerms.threshold 3

namespace Mine
open PySem PyProof.Rows PySem.Builtin
section
variable {M : Model} {A : Around} {E : Value → Shared → Prop} {h : Heap} {g : Array GenState} {d : Drawn} {t : Nat} {os : OsState} {s : Shared}
noncomputable def Grown (h h' : Heap) (P : Addr) : Prop := ∃ ps more, h.get? P = some (tabObj ps) ∧ h'.get? P = some (tabObj (ps ++ more))
theorem Grown.same {h h' : Heap} {P : Addr} {ps : Array Value} (e : h.get? P = some (tabObj ps)) (e' : h'.get? P = some (tabObj ps)) : Grown h h' P := ⟨ps, #[], e, by simpa using e'⟩
theorem Grown.then {h h' h'' : Heap} {P : Addr} (x : Grown h h' P) (k : ∀ o, h'.get? P = some o → h''.get? P = some o) : Grown h h'' P := let ⟨ps, more, a, b⟩ := x; ⟨ps, more, a, k _ b⟩
theorem oldK_grown {h₀ h h' : Heap} (K : OldK h₀ h) {T : List Addr} (hT : ∀ a ∈ T, h₀.get? a = none) {c₀ P : Addr} {ps₀ : Array Value} (ht₀ : h₀.TableAt c₀ P ps₀) (hg : Grown h h' P)
    (hx : ∀ b o, b ≠ P → b ∉ T → h.get? b = some o → h'.get? b = some o) (hP : P ≠ cStatics) : OldK h₀ h' := by
  have nT : ∀ b o, h₀.get? b = some o → b ∉ T := fun b o e z => by rw [hT b z] at e; cases e
  obtain ⟨ps, more, g1, g2⟩ := hg
  refine ⟨fun b o e => ?_, fun b o e => ?_⟩
  · by_cases hb : b = P
    · subst hb
      have e₀ : o = { cls := .none, data := .fields ps₀ } := Option.some.inj (e.symm.trans ht₀.2)
      subst e₀
      rcases K.old b _ e with x | ⟨_, _, vs, m₁, hv, x⟩ | ⟨hc, _⟩
      · have : ps = ps₀ := by have := Option.some.inj (g1.symm.trans x); injection this with _ _ h3; injection h3
        subst this
        exact .inr (.inl ⟨ht₀.isCodeTable, rfl, ps, more, rfl, g2⟩)
      · cases hv
        have : ps = ps₀ ++ m₁ := by have := Option.some.inj (g1.symm.trans x); injection this with _ _ h3; injection h3
        subst this
        exact .inr (.inl ⟨ht₀.isCodeTable, rfl, ps₀, m₁ ++ more, rfl, by rw [g2, Array.append_assoc]⟩)
      · exact (hP hc).elim
    · rcases K.old b o e with x | ⟨t, hc, vs, m₁, hv, x⟩ | ⟨rfl, hc, ⟨o', es, n, ho', r⟩, z⟩
      · exact .inl (hx _ _ hb (nT b o e) x)
      · exact .inr (.inl ⟨t, hc, vs, m₁, hv, hx _ _ hb (nT b o e) x⟩)
      · exact .inr (.inr ⟨rfl, hc, ⟨o', es, n, hx _ _ hb (nT _ o e) ho', r⟩, fun key => by rw [OldK.staticOf_congr ((hx _ _ hb (nT _ o e) ho').trans ho'.symm) key]; exact z key⟩)
  · by_cases hb : b = P
    · exact ⟨_, hb ▸ g2⟩
    · obtain ⟨o', ho'⟩ := K.there b o e
      exact ⟨o', hx _ _ hb (nT b o e) ho'⟩

/- the class's code in the table of the function around it -/
noncomputable def KCode (h : Heap) (P : Addr) (pos : Pos) (qual : Str) (qK : Nat → Nat → Str) (pk : Option (Addr × Addr)) : Prop :=
  ∃ ps, h.get? P = some (tabObj ps) ∧ TriplesOk ps.toList ∧ match pk with
    | none => codeAmong pos ps.toList = none
    | some (cK, PK) => codeAmong pos ps.toList = some (.ref cK) ∧ h.CodeRec (.ref cK) qual ∧ CodeHd h cK PK ∧ TabQ h PK qK ∧ P ≠ PK ∧ P ≠ cK ∧ cK ≠ PK

theorem class_code {env : Env} {c P : Addr} {pos : Pos} {firstLine : Nat} {name qual : Str} {scope : Scope} {qK : Nat → Nat → Str} {pk : Option (Addr × Addr)} {Q : Value → Shared → Prop} (hc : env.code = .ref c) (C : CodeHd s.heap c P) (T : KCode s.heap P pos qual qK pk)
    (hQ : ∀ cK PK h' tk, Heap.ExtBut P s.heap h' → Grown s.heap h' P → KCode h' P pos qual qK (some (cK, PK)) → (pk = none → s.heap.get? PK = none) → (∀ x, pk = some x → x = (cK, PK)) → Q (.ref cK) { s with heap := h', toks := tk }) :
    wpAny M A (classCode env pos firstLine name qual scope) Q E s := by
  obtain ⟨ps, hP, htr, T⟩ := T
  cases pk with
  | some x =>
    obtain ⟨cK, PK⟩ := x
    obtain ⟨t1, t2, t3, t4, t5, t6, t7⟩ := T
    exact wpAny_codeAt_hit hc (C.code hP htr) t1 (hQ cK PK s.heap s.toks (fun zz1 zz2 zz3 e => e) (.same hP hP) ⟨ps, hP, htr, t1, t2, t3, t4, t5, t6, t7⟩ (fun z => by cases z) (fun x z => by cases z; rfl))
  | none =>
    have hnf : codeAmong pos ps.toList = none := T
    obtain ⟨o, vs, file, tf, flags, tg, inF, text, tt, op, ho, hd, h11, h2, h7, h9, h10, hop, hpd, htr', hne⟩ := id (C.code hP htr)
    rw [hP] at hop; cases hop
    unfold classCode codeAt
    rw [hc, if_neg (show ¬ ((Value.ref c == Value.none) = true) from Bool.false_ne_true)]
    refine wpAny_bind (wpAny_fieldsOf ho hd ?_)
    rw [h11]
    refine wpAny_bind (wpAny_fieldsOf hP hpd ?_)
    rw [hnf, h2, h7, h9, h10]
    refine wpAny_bind (wpAny_newCodeX fun c' P' h' tk hk hc' hP' hcode' htab' hrec' => ?_)
    have hop' := hk _ _ hP
    refine wpAny_bind (wpAny_updateFieldsOfTheText hop' hpd ?_)
    have hnew : (Obj.mapFields (fun vs => if (codeAmong pos vs.toList).isSome = true then vs else vs ++ #[rawInt pos.line, rawInt pos.col, .ref c']) (tabObj ps)).data =
        .fields (ps ++ #[rawInt pos.line, rawInt pos.col, .ref c']) := by
      rw [Obj.data_mapFields hpd, hnf]; rfl
    have hget := Heap.get?_update_self (h := h') (fun o => Obj.mapFields (fun vs => if (codeAmong pos vs.toList).isSome = true then vs else
      vs ++ #[rawInt pos.line, rawInt pos.col, .ref c']) o) hop' (Obj.isFreed_of_fields hnew)
    refine wpAny_bind (wpAny_fieldsOf hget hnew ?_)
    have hl : (ps ++ #[rawInt pos.line, rawInt pos.col, Value.ref c']).toList = ps.toList ++ [rawInt pos.line, rawInt pos.col, .ref c'] := by simp
    rw [hl, codeAmong_snoc _ htr hnf]
    have hcP : c' ≠ P := Nat.ne_of_gt (Nat.lt_of_lt_of_le (Heap.lt_size hP) hc')
    have hP'P : P' ≠ P := Nat.ne_of_gt (Nat.lt_of_lt_of_le (Heap.lt_size hP) hP')
    have ex := Heap.SameBut.update (h := h') (a := P) (f := fun o => Obj.mapFields (fun vs => if (codeAmong pos vs.toList).isSome = true then vs else vs ++ #[rawInt pos.line, rawInt pos.col, .ref c']) o)
    have hget' : (h'.update P fun o => Obj.mapFields (fun vs => if (codeAmong pos vs.toList).isSome = true then vs else vs ++ #[rawInt pos.line, rawInt pos.col, .ref c']) o).get? P = some (tabObj (ps ++ #[rawInt pos.line, rawInt pos.col, .ref c'])) := by
      rw [hget]; simp only [Obj.mapFields, hnf]; rfl
    have hd' : CodeHd h' c' P' := .of hcode' htab'
    obtain ⟨c₂, o₂, vs₂, t₂, e₂, g₂, r₂⟩ := hrec'
    cases e₂
    refine wpAny_pure (hQ c' P' _ tk (fun b o' hb e => ex.extBut b o' hb (hk b o' e)) ⟨ps, _, hP, hget'⟩ ⟨_, hget', by rw [hl]; exact TriplesOk_snoc _ _ _ _ htr, by rw [hl]; exact codeAmong_snoc _ htr hnf, ⟨_, o₂, vs₂, t₂, rfl, ex.extBut _ _ hcP g₂, r₂⟩, ?_, ?_, hP'P.symm, hcP.symm, ?_⟩ (fun zz1 => ?_) fun x z => by cases z)
    · obtain ⟨o, vs, file, tf, flags, tg, inF, text, tt, e, r⟩ := hd'
      exact ⟨o, vs, file, tf, flags, tg, inF, text, tt, ex.extBut _ _ hcP e, r⟩
    · exact TabQ.empty (ex.extBut _ _ hP'P htab'.2)
    · obtain ⟨o, vs, file, tf, flags, tg, inF, text, tt, e, e1, e2, e3, e4, e5, e6, e7, e8, e9⟩ := hd'
      exact e9
    · cases z : s.heap.get? P' with
      | none => rfl
      | some o => exact absurd (Heap.lt_size z) (Nat.not_lt.mpr hP')
end
end Mine


open PySem PySem.W PyProof.Rows PySem.W.X
set_option maxHeartbeats 4000000
set_option pp.deepTerms false
set_option pp.deepTerms.threshold 3

namespace Mine
open PySem PyProof.Rows PySem.Builtin
noncomputable abbrev prepObj : Obj := { cls := .type "builtin_function_or_method", data := .fields #[.builtin "type.__prepare__", .type "type"] }
section
variable {prog : Program} {w : World} {A : Around} {E : Value → Shared → Prop} {h : Heap} {g : Array GenState} {d : Drawn} {t : Nat} {os : OsState} {s : Shared}
local macro_rules | `(tactic| x_close) => `(tactic| exact ⟨_, _, rfl, rfl, (Mem.nw (by assumption) _ (List.mem_cons_self ..)).2, (Mem.nw (by assumption) _ (List.mem_cons_self ..)).1, mem_keep (by assumption)⟩)
theorem prep_ga {Q : Value → Shared → Prop} {tk : Tok}
    (hq : ∀ a h', h.get? a = none → h'.get? a = some prepObj → (∀ b o, h.get? b = some o → h'.get? b = some o) → Q (.ref a) ⟨h', g, d, t, os⟩) :
    wpAny (model prog w) A (call (.builtin "type.__getattribute__") [.type "type", .str "__prepare__" tk]) Q E ⟨h, g, d, t, os⟩ := by
  refine wpAny_mono (Q := fun v s' => ∃ a h', v = .ref a ∧ s' = ⟨h', g, d, t, os⟩ ∧ h.get? a = none ∧ h'.get? a = some prepObj ∧ (∀ b o, h.get? b = some o → h'.get? b = some o)) (E := fun zz1 zz2 => False) ?_ (fun v s' ⟨a, h', e1, e2, x, y, z⟩ => by rw [e1, e2]; exact hq a h' x y z) fun zz1 zz2 z => z.elim
  clear hq
  x_run
theorem prep_call {p b : Addr} {nm : Str} {tk : Tok} {Q : Value → Shared → Prop} (hp : h.get? p = some prepObj)
    (hq : ∀ a h', h.get? a = none → h'.get? a = some { cls := .type "dict", data := .dict #[] } → (∀ b o, h.get? b = some o → h'.get? b = some o) → Q (.ref a) ⟨h', g, d, t, os⟩) :
    wpAny (model prog w) A (call (.ref p) [.str nm tk, .ref b]) Q E ⟨h, g, d, t, os⟩ := by
  refine wpAny_mono (Q := fun v s' => ∃ a h', v = .ref a ∧ s' = ⟨h', g, d, t, os⟩ ∧ h.get? a = none ∧ h'.get? a = some { cls := .type "dict", data := .dict #[] } ∧ (∀ b o, h.get? b = some o → h'.get? b = some o)) (E := fun zz1 zz2 => False) ?_ (fun v s' ⟨a, h', e1, e2, x, y, z⟩ => by rw [e1, e2]; exact hq a h' x y z) fun zz1 zz2 z => z.elim
  clear hq
  unfold prepObj at hp
  x_run
theorem ty_ga : typeLookup (.type "type") "__getattribute__" = pure (some (.builtin "type.__getattribute__")) := by kernel_rfl
theorem ty_ga_bind : bindSpecial (.builtin "type.__getattribute__") (.type "type") = pure (.builtin "type.__getattribute__", [.type "type"]) := by kernel_rfl
theorem ty_type : typeOf (.type "type") = pure (.type "type") := by kernel_rfl
theorem prep_attr {Q : Option Value → Shared → Prop}
    (hq : ∀ a h' t', h.get? a = none → h'.get? a = some prepObj → (∀ b o, h.get? b = some o → h'.get? b = some o) → Q (some (.ref a)) ⟨h', g, d, t', os⟩) :
    wpAny (model prog w) A (getAttr? (.type "type") "__prepare__") Q E ⟨h, g, d, t, os⟩ := by
  have hlk := ty_ga
  unfold getAttr? getAttrBy?
  refine wpAny_bind (wpAny_mkText (wpAny_bind (wpAny_attempt ?_)))
  unfold getAttrBy
  refine wpAny_holding (wpAny_bind (wpAny_of_eq ty_type (wpAny_bind (wpAny_of_eq hlk ?_))))
  show wpAny _ _ (getAttrByItsOwn (.type "type") (.str "__prepare__" t) (.type "type") (.builtin "type.__getattribute__") false false) _ _ _
  unfold getAttrByItsOwn hookBefore callGetattribute boundAndCalled
  refine wpAny_bind (wpAny_of_eq (show (if onTheHeap (.type "type") then typeLookup (.type "type") "__getattr__" else pure none) = pure none from rfl) ?_)
  refine wpAny_bind (wpAny_attempt (wpAny_holding ?_))
  show wpAny _ _ (bindSpecial (.builtin "type.__getattribute__") (.type "type") >>= _) _ _ _
  refine wpAny_bind (wpAny_of_eq ty_ga_bind ?_)
  refine prep_ga fun a h' x y z => ?_
  refine wpAny_pure (wpAny_pure (hq a h' _ x y z))
end
end Mine


open PySem PySem.W PyProof.Rows PySem.W.X
set_option maxHeartbeats 4000000
set_option pp.deepTerms false
set_option pp.deepTerms.threshold 3

namespace Mine
open PySem PyProof.Rows PySem.Builtin
section
variable {M : Model} {A : Around} {E : Value → Shared → Prop} {h : Heap} {g : Array GenState} {d : Drawn} {t : Nat} {os : OsState} {s : Shared}
theorem put_cls (n : Str) (hh : Int) (k v : Value) (o : Obj) : (Obj.putName n hh k v o).cls = o.cls := by
  rw [Obj.putName_eq]
  obtain ⟨c, d, dt, sl⟩ := o
  cases dt <;> try rfl
  simp only [Obj.putNameByArray]
  split <;> rfl
theorem put_freed (n : Str) (hh : Int) (k v : Value) {o : Obj} {es : Array DictEntry} {ep : Nat} (hd : o.data = .dict es ep) : (Obj.putName n hh k v o).isFreed = false := by
  rw [Obj.putName_eq]
  obtain ⟨c, d, dt, sl⟩ := o
  subst hd
  simp only [Obj.putNameByArray]
  split <;> rfl
/- a dict that is an own namespace -/
noncomputable def DictNs (h : Heap) (a : Addr) (m : Str → Option Value) : Prop := h.Ns1 a m ∧ ∃ o, h.get? a = some o ∧ o.cls = .type "dict"
theorem DictNs.at {h h' : Heap} {a : Addr} {m : Str → Option Value} (x : DictNs h a m) (k : ∀ o, h.get? a = some o → h'.get? a = some o) : DictNs h' a m := ⟨x.1.at k, let ⟨o, e, r⟩ := x.2; ⟨o, k _ e, r⟩⟩
theorem dict_put {a : Addr} {m : Str → Option Value} {name : Str} {v : Value} {Q : Unit → Shared → Prop} (hn : DictNs h a m)
    (hq : ∀ h', DictNs h' a (fun x => if x = name then some v else m x) → Heap.SameBut a h h' → Q () ⟨h', g, d, t + 1, os⟩) : wpAny M A (nsSet a name v) Q E ⟨h, g, d, t, os⟩ := by
  obtain ⟨hn, o, ho, hc⟩ := hn
  intro Γ p hΓ
  have W := Sem.wp_nsSet1 M Γ (fun e zz1 s' => E e s') p ⟨h, g, d, t, os⟩ hn name v (fun zz1 zz2 s' => s'.heap.Ns1 a (fun x => if x = name then some v else m x) ∧ Heap.SameBut a h s'.heap) (fun h' x y => ⟨x, y⟩)
  obtain ⟨o', es, ep, ho', hd, hk, hu, hm⟩ := id hn
  rw [ho] at ho'; cases ho'
  have hany : es.any (·.refKey) = false := by
    rw [Array.any_eq_false']; intro e he; obtain ⟨n, t, h⟩ := hk e he; simp [DictEntry.refKey, h]
  simp only [nsSet, strHash, Sem.wp_bind', Sem.wp_cmd_ask, Sem.wp_pure', Sem.wp_cmd_mkText] at W ⊢
  rw [Sem.wp_loadPart_of M Γ _ p _ (o := o) _ ho] at W ⊢
  simp only [hd, aRefKeyMayBeTheName_eq, aRefKeyMayBeTheNameByArray, hany, Bool.and_false, Bool.false_eq_true, if_false, Sem.wp_cmd_updatePart] at W ⊢
  refine ⟨W.1, hq _ ⟨W.2.1, ?_⟩ W.2.2⟩
  obtain ⟨o2, es2, ep2, ho2, hd2, _⟩ := W.2.1
  refine ⟨o2, ho2, ?_⟩
  rw [Heap.get?_update_self _ ho (put_freed _ _ _ _ hd)] at ho2
  cases ho2
  rw [put_cls]; exact hc

theorem cls_store {env : Env} {m : Str → Option Value} {x : Str} {v : Value} {Q : Unit → Shared → Prop} (hk : env.scope.kind = .class) (hb : env.blockKind = .class) (hx : env.kindOf x = some .local ∨ (env.kindOf x = none ∧ compilersOwnNames.contains x = true)) (hn : DictNs h env.locals m)
    (hq : ∀ h', DictNs h' env.locals (fun y => if y = x then some v else m y) → Heap.SameBut env.locals h h' → Q () ⟨h', g, d, t + 1, os⟩) : wpAny M A (storeName env x v) Q E ⟨h, g, d, t, os⟩ := by
  obtain ⟨o, ho, hc⟩ := hn.2
  have key : wpAny M A (localSet env x v) Q E ⟨h, g, d, t, os⟩ := by
    unfold localSet
    refine wpAny_bind (wpAny_load' ho ?_)
    rw [hc]
    exact dict_put hn hq
  unfold storeName
  rcases hx with hx | ⟨hx, hy⟩
  · rw [hx, hk, hb]
    exact key
  · rw [hx, hk, hb, hy]
    exact key
end
end Mine


open PySem PySem.W PyProof.Rows PySem.W.X
set_option maxHeartbeats 4000000
set_option pp.deepTerms false
set_option pp.deepTerms.threshold 3

namespace Mine
open PySem PyProof.Rows PySem.Builtin
noncomputable def putM (m : Str → Option Value) (x : Str) (v : Value) : Str → Option Value := fun y => if y = x then some v else m y
/- the heap kept but for two addresses -/
noncomputable def Kp (a b : Addr) (h h' : Heap) : Prop := ∀ x o, x ≠ a → x ≠ b → h.get? x = some o → h'.get? x = some o
theorem Kp.trans {a b : Addr} {h h' h'' : Heap} (x : Kp a b h h') (y : Kp a b h' h'') : Kp a b h h'' := fun z o p q e => y z o p q (x z o p q e)
theorem Kp.refl {a b : Addr} {h : Heap} : Kp a b h h := fun zz1 zz2 zz3 zz4 e => e

structure Bd (h : Heap) (nsA cK PK : Addr) (qK : Nat → Nat → Str) (mg m : Str → Option Value) : Prop where
  ns : DictNs h nsA m
  tab : TabQ h PK qK
  hd : CodeHd h cK PK
  g : h.Ns mainGlobals mg
  b : h.BuiltinsAt mg PK
  n1 : nsA ≠ PK
  n2 : nsA ≠ cK
  n3 : mainGlobals ≠ nsA
  n4 : mainGlobals ≠ PK
  n5 : ∃ bm, mg "__builtins__" = some (.ref bm) ∧ bm ≠ nsA
theorem codeHd_ne {h : Heap} {c P : Addr} (x : CodeHd h c P) : c ≠ P := x.elim fun zz1 h => h.elim fun zz1 h => h.elim fun zz1 h => h.elim fun zz1 h => h.elim fun zz1 h => h.elim fun zz1 h => h.elim fun zz1 h => h.elim fun zz1 h => h.elim fun zz1 h => h.2.2.2.2.2.2.2.2.2
theorem codeHd_but {h h' : Heap} {c P a : Addr} (x : CodeHd h c P) (hx : Heap.ExtBut a h h') (hc : c ≠ a) : CodeHd h' c P :=
  x.imp fun zz1 h => h.imp fun zz1 h => h.imp fun zz1 h => h.imp fun zz1 h => h.imp fun zz1 h => h.imp fun zz1 h => h.imp fun zz1 h => h.imp fun zz1 h => h.imp fun zz1 h => ⟨hx _ _ hc h.1, h.2⟩
theorem bi_but {h h' : Heap} {mg : Str → Option Value} {P a bm : Addr} (x : h.BuiltinsAt mg P) (hx : Heap.ExtBut a h h') (e : mg "__builtins__" = some (.ref bm)) (hne : bm ≠ a) : h'.BuiltinsAt mg P := by
  obtain ⟨bm', o, e', n1, n2, n3, g, r⟩ := x
  rw [e] at e'; cases e'
  exact ⟨bm, o, e, n1, n2, n3, hx _ _ hne g, r⟩
theorem bi_self {h h' : Heap} {mg : Str → Option Value} {P : Addr} (x : h.BuiltinsAt mg P) (hx : Heap.ExtBut P h h') : h'.BuiltinsAt mg P := by
  obtain ⟨bm, o, e, n1, n2, n3, g, r⟩ := x
  exact ⟨bm, o, e, n1, n2, n3, hx _ _ n3 g, r⟩
theorem tabQ_but {h h' : Heap} {P a : Addr} {q : Nat → Nat → Str} {oa : Obj} {es : Array DictEntry} {ep : Nat} (x : TabQ h P q) (hx : Heap.ExtBut a h h') (hP : P ≠ a) (ha : h.get? a = some oa) (hd : oa.data = .dict es ep) : TabQ h' P q := by
  obtain ⟨ps, e, ht, hq⟩ := x
  refine ⟨ps, hx _ _ hP e, ht, fun pos cv z => ?_⟩
  obtain ⟨c', e1, e2, e3⟩ := hq pos cv z
  refine ⟨c', e1, e2, codeRec_extBut e3 hx fun y => ?_⟩
  obtain ⟨c₂, o, vs, t, e4, e5, e6, _⟩ := e3
  cases e4
  rw [y, ha] at e5; cases e5
  rw [hd] at e6; cases e6

section
variable {M : Model} {A : Around} {E : Value → Shared → Prop} {h : Heap} {g : Array GenState} {d : Drawn} {t : Nat} {os : OsState} {s : Shared} {env : Env} {nsA cK PK : Addr} {qK : Nat → Nat → Str} {mg m : Str → Option Value}

/- the class's own frame -/
structure CEnv (env : Env) (nsA cK : Addr) (scope : Scope) : Prop where
  sc : env.scope = scope
  kind : scope.kind = .class
  loc : env.locals = nsA
  glob : env.globals = mainGlobals
  code : env.code = .ref cK
theorem CEnv.block {scope : Scope} (x : CEnv env nsA cK scope) : env.blockKind = .class := by unfold Env.blockKind; rw [x.sc, x.kind]; rfl
theorem CEnv.k {scope : Scope} (x : CEnv env nsA cK scope) : env.scope.kind = .class := by rw [x.sc]; exact x.kind
theorem CEnv.kindOf {scope : Scope} (x : CEnv env nsA cK scope) (y : Str) : env.kindOf y = scope.names.lookup y := by unfold Env.kindOf; rw [x.sc]

theorem bd_store {scope : Scope} {x : Str} {v : Value} {Q : Unit → Shared → Prop} (c : CEnv env nsA cK scope) (hx : scope.names.lookup x = some .local ∨ (scope.names.lookup x = none ∧ compilersOwnNames.contains x = true)) (b : Bd h nsA cK PK qK mg m)
    (hq : ∀ h' t', Bd h' nsA cK PK qK mg (putM m x v) → Heap.SameBut nsA h h' → Q () ⟨h', g, d, t', os⟩) : wpAny M A (storeName env x v) Q E ⟨h, g, d, t, os⟩ := by
  refine cls_store c.k c.block (by rw [c.kindOf]; exact hx) (by rw [c.loc]; exact b.ns) fun h' dn sb => ?_
  rw [c.loc] at dn sb
  obtain ⟨bm, e5, n5⟩ := b.n5
  obtain ⟨oa, es, ep, ha, hd, _⟩ := id b.ns.1
  exact hq h' _ ⟨dn, tabQ_but b.tab sb.extBut b.n1.symm ha hd, codeHd_but b.hd sb.extBut b.n2.symm, b.g.extBut sb.extBut b.n3, bi_but b.b sb.extBut e5 n5, b.n1, b.n2, b.n3, b.n4, bm, e5, n5⟩ sb

theorem bd_def {scope : Scope} {name : Str} {params : Arguments} {body : List Stmt} {sc : Scope} {pos : Pos} {clos : List (Str × Addr)} {Q : Flow → Shared → Prop} (c : CEnv env nsA cK scope) (hx : scope.names.lookup name = some .local) (b : Bd h nsA cK PK qK mg m)
    (hd0 : params.defaults = []) (hk0 : params.kw_defaults = []) (ha : annTrees params none env = []) (hcl : closureFor sc env = pure clos) (hq : qK pos.line pos.col = env.qual ++ name)
    (next : ∀ f c' ctv doc h' t', Bd h' nsA cK PK qK mg (putM m name (.ref f)) → Kp nsA PK h h' → h.get? f = none → f ≠ nsA → f ≠ PK → c' ≠ nsA → c' ≠ PK → h'.get? f = some (fnMade name (env.qual ++ name) params body sc clos doc ((mg "__name__").getD .none) c' ctv) →
      h'.CodeRec (.ref c') (env.qual ++ name) → Q .next ⟨h', g, d, t', os⟩) :
    wpAny M A (exec (.FunctionDef name params body [] none [] sc none name pos) env) Q E ⟨h, g, d, t, os⟩ := by
  have hqn : qualnameIn env name name = env.qual ++ name := by
    unfold qualnameIn; rw [c.kindOf, hx]; rfl
  refine nestDef_K hd0 hk0 ha ?_
  rw [hqn]
  obtain ⟨bm, e5, n5⟩ := b.n5
  obtain ⟨oa, es, ep, hga, hd, _⟩ := id b.ns.1
  refine mk_fn (s := ⟨h, g, d, t, os⟩) hcl c.glob b.g c.code b.hd b.tab hq b.n4 b.b fun f c' ctv doc h1 tk x1 fn1 tab1 ho1 cr1 hcP zz1 => ?_
  have fA : f ≠ nsA := fun z => by have fn1 : h.get? f = none := fn1; rw [z, hga] at fn1; cases fn1
  have fP : f ≠ PK := fun z => by obtain ⟨ps, e, _⟩ := b.tab; have fn1 : h.get? f = none := fn1; rw [z, e] at fn1; cases fn1
  have dn1 : DictNs h1 nsA m := b.ns.at fun o e => x1 _ _ b.n1 e
  obtain ⟨oa1, es1, ep1, hga1, hd1, _⟩ := id dn1.1
  have cA : c' ≠ nsA := fun z => by
    obtain ⟨c₂, o, vs, t, e4, e6, e7, _⟩ := cr1
    cases e4
    rw [z, hga1] at e6; cases e6
    rw [hd1] at e7; cases e7
  have b1 : Bd h1 nsA cK PK qK mg m := ⟨dn1, tab1, codeHd_but b.hd x1 (codeHd_ne b.hd), b.g.extBut x1 b.n4, bi_self b.b x1, b.n1, b.n2, b.n3, b.n4, bm, e5, n5⟩
  refine bd_store (x := name) (v := .ref f) c (.inl hx) b1 fun h2 t2 b2 sb => ?_
  exact next f c' ctv doc h2 t2 b2 (fun x o p q e => sb.extBut _ _ p (x1 _ _ q e)) fn1 fA fP cA hcP (sb.extBut _ _ fA ho1) (codeRec_extBut cr1 sb.extBut cA)
end
end Mine


open PySem PySem.W PyProof.Rows PySem.W.X
set_option maxHeartbeats 4000000
set_option pp.deepTerms false
set_option pp.deepTerms.threshold 3

namespace Mine
open PySem PyProof.Rows PySem.Builtin
/- a def of the class -/
structure MD where
  params : Arguments
  body : List Stmt
  sc : Scope
  pos : Pos
  clos : List (Str × Addr)
noncomputable def MD.stmt (name : Str) (x : MD) : Stmt := .FunctionDef name x.params x.body [] none [] x.sc none name x.pos
structure MD.Ok (env : Env) (scope : Scope) (qK : Nat → Nat → Str) (name : Str) (x : MD) : Prop where
  hd0 : x.params.defaults = []
  hk0 : x.params.kw_defaults = []
  ha : annTrees x.params none env = []
  hcl : closureFor x.sc env = pure x.clos
  hq : qK x.pos.line x.pos.col = env.qual ++ name
  hx : scope.names.lookup name = some .local
structure KFn (h : Heap) (f nsA PK : Addr) (name qual : Str) (x : MD) (pm : Value) : Prop where
  at_ : ∃ c' ctv doc, h.get? f = some (fnMade name qual x.params x.body x.sc x.clos doc pm c' ctv) ∧ h.CodeRec (.ref c') qual ∧ c' ≠ nsA ∧ c' ≠ PK
  n1 : f ≠ nsA
  n2 : f ≠ PK
theorem codeRec_kp {h h' : Heap} {a b c : Addr} {q : Str} (x : h.CodeRec (.ref c) q) (k : Kp a b h h') (n1 : c ≠ a) (n2 : c ≠ b) : h'.CodeRec (.ref c) q :=
  let ⟨c₂, o, vs, t, e, g, r⟩ := x; ⟨c₂, o, vs, t, e, k _ _ (by cases e; exact n1) (by cases e; exact n2) g, r⟩
theorem KFn.kp {h h' : Heap} {f nsA PK : Addr} {name qual : Str} {x : MD} {pm : Value} (y : KFn h f nsA PK name qual x pm) (k : Kp nsA PK h h') : KFn h' f nsA PK name qual x pm := by
  obtain ⟨⟨c', ctv, doc, e, r, n3, n4⟩, n1, n2⟩ := y
  exact ⟨⟨c', ctv, doc, k _ _ n1 n2 e, codeRec_kp r k n3 n4, n3, n4⟩, n1, n2⟩
theorem sb_kp {a b : Addr} {h h' : Heap} (x : Heap.SameBut a h h') : Kp a b h h' := fun z o p zz1 e => x.extBut _ _ p e

/- all that the class's body makes -/
structure KBody (h h' : Heap) (nsA PK : Addr) (qual : Str) (pm : Value) (x0 x1 x2 x3 x4 x5 : MD) (f0 f1 f2 f3 f4 f5 sl : Addr) (ts : Tok) : Prop where
  kp : Kp nsA PK h h'
  i : KFn h' f0 nsA PK "__init__" (qual ++ "__init__") x0 pm
  lt : KFn h' f1 nsA PK "__lt__" (qual ++ "__lt__") x1 pm
  gt : KFn h' f2 nsA PK "__gt__" (qual ++ "__gt__") x2 pm
  eq : KFn h' f3 nsA PK "__eq__" (qual ++ "__eq__") x3 pm
  le : KFn h' f4 nsA PK "__le__" (qual ++ "__le__") x4 pm
  ge : KFn h' f5 nsA PK "__ge__" (qual ++ "__ge__") x5 pm
  sla : h'.get? sl = some { cls := .type "list", data := .seq #[.str "obj" ts] }
  sn : sl ≠ nsA ∧ sl ≠ PK
  fr : ∀ a ∈ [f0, f1, f2, f3, f4, f5, sl], h.get? a = none

section
variable {prog : Program} {w : World} {A : Around} {E : Value → Shared → Prop} {h : Heap} {g : Array GenState} {d : Drawn} {t : Nat} {os : OsState} {s : Shared} {env : Env} {nsA cK PK : Addr} {qK : Nat → Nat → Str} {mg m : Str → Option Value}
theorem Bd.push {o : Obj} (b : Bd h nsA cK PK qK mg m) : Bd (h.push o) nsA cK PK qK mg m := by
  have up : ∀ b o', h.get? b = some o' → (h.push o).get? b = some o' := fun b o' e => Heap.get?_push_of_some _ e
  obtain ⟨bm, e5, n5⟩ := b.n5
  exact ⟨b.ns.at fun o e => up _ _ e, b.tab.keep up, b.hd.keeps up, b.g.keeps up, bi_self b.b fun x o zz1 e => up _ _ e, b.n1, b.n2, b.n3, b.n4, bm, e5, n5⟩
theorem kp_none {a b x : Addr} {h h' : Heap} (k : Kp a b h h') (ha : x ≠ a) (hb : x ≠ b) (e : h'.get? x = none) : h.get? x = none := by
  cases q : h.get? x with
  | none => rfl
  | some o => rw [k _ _ ha hb q] at e; cases e

theorem body_run {scope : Scope} {x0 x1 x2 x3 x4 x5 : MD} {sm : Str} {k1 k2 k3 : Nat} {p1 p2 p3 p4 p5 p6 p7 p8 p9 p10 : Pos} {R : Result → Shared → Prop} (c : CEnv env nsA cK scope) (b : Bd h nsA cK PK qK mg m)
    (o0 : x0.Ok env scope qK "__init__") (o1 : x1.Ok env scope qK "__lt__") (o2 : x2.Ok env scope qK "__gt__") (o3 : x3.Ok env scope qK "__eq__") (o4 : x4.Ok env scope qK "__le__") (o5 : x5.Ok env scope qK "__ge__")
    (l1 : scope.names.lookup ("__module__" : Str) = some .local) (l2 : scope.names.lookup ("__slots__" : Str) = some .local) (l3 : scope.names.lookup ("__hash__" : Str) = some .local)
    (hR : ∀ f0 f1 f2 f3 f4 f5 sl ts tm h' t', KBody h h' nsA PK env.qual ((mg "__name__").getD .none) x0 x1 x2 x3 x4 x5 f0 f1 f2 f3 f4 f5 sl ts →
      Bd h' nsA cK PK qK mg (putM (putM (putM (putM (putM (putM (putM (putM (putM m "__module__" (.str sm tm)) "__slots__" (.ref sl)) "__init__" (.ref f0)) "__lt__" (.ref f1)) "__gt__" (.ref f2)) "__eq__" (.ref f3)) "__le__" (.ref f4)) "__ge__" (.ref f5)) "__hash__" .none) →
      R (.ok .next) ⟨h', g, d, t', os⟩) :
    codeAny (model prog w) A (.body [.Assign [.Name "__module__" p1] (.Constant (.str sm) k1 p2) p3, .Assign [.Name "__slots__" p4] (.List [.Constant (.str "obj") k2 p5] p6) p7,
      x0.stmt "__init__", x1.stmt "__lt__", x2.stmt "__gt__", x3.stmt "__eq__", x4.stmt "__le__", x5.stmt "__ge__", .Assign [.Name "__hash__" p8] (.Constant .none k3 p9) p10] env) R ⟨h, g, d, t, os⟩ := by
  refine codeAny_of_tree ?_
  show wpAny _ _ (do blockStart _ env; return PySem.Fin.done (← (execs _ env).onRaise (leaving env))) _ _ _
  have hbs : blockStart [.Assign [.Name "__module__" p1] (.Constant (.str sm) k1 p2) p3, .Assign [.Name "__slots__" p4] (.List [.Constant (.str "obj") k2 p5] p6) p7,
      x0.stmt "__init__", x1.stmt "__lt__", x2.stmt "__gt__", x3.stmt "__eq__", x4.stmt "__le__", x5.stmt "__ge__", .Assign [.Name "__hash__" p8] (.Constant .none k3 p9) p10] env = pure () := by
    unfold blockStart interactive
    rw [c.k]
    rfl
  refine wpAny_bind (wpAny_of_eq hbs (wpAny_bind (wpAny_onRaise ?_)))
  refine wpAny_execs_cons (wpAny_Assign_Name (wpAny_Constant_str (bd_store c (.inl l1) b fun h1 t1 b1 s1 => ?_)))
  refine wpAny_execs_cons (wpAny_Assign_Name (wpAny_List (wpAny_items_cons (wpAny_Constant_str (wpAny_items_nil ⟨by show 1 ≤ sizeLine; decide, ?_⟩)) rfl)))
  have hsl : (h1.push { cls := .type "list", data := .seq #[.str "obj" t1] }).get? h1.objs.size = some { cls := .type "list", data := .seq #[.str "obj" t1] } := Heap.get?_push_size _ rfl
  have fsl : h1.get? h1.objs.size = none := get_size h1
  have slA : h1.objs.size ≠ nsA := fun z => by obtain ⟨o, e, _⟩ := b1.ns.2; rw [← z, fsl] at e; cases e
  have slP : h1.objs.size ≠ PK := fun z => by obtain ⟨ps, e, _⟩ := b1.tab; rw [← z, fsl] at e; cases e
  refine bd_store c (.inl l2) b1.push fun h2 t2 b2 s2 => ?_
  have kp2 : Kp nsA PK h1 h2 := fun z o p q e => s2.extBut _ _ p (Heap.get?_push_of_some _ e)
  have hsl2 := s2.extBut _ _ slA hsl
  refine wpAny_execs_cons (bd_def c o0.hx b2 o0.hd0 o0.hk0 o0.ha o0.hcl o0.hq fun f0 c0 ct0 d0 h3 t3 b3 k3 r3 fA0 fP0 cA0 cP0 e0 cr0 => ?_)
  refine wpAny_execs_cons (bd_def c o1.hx b3 o1.hd0 o1.hk0 o1.ha o1.hcl o1.hq fun f1 c1 ct1 d1 h4 t4 b4 k4 r4 fA1 fP1 cA1 cP1 e1 cr1 => ?_)
  refine wpAny_execs_cons (bd_def c o2.hx b4 o2.hd0 o2.hk0 o2.ha o2.hcl o2.hq fun f2 c2 ct2 d2 h5 t5 b5 k5 r5 fA2 fP2 cA2 cP2 e2 cr2 => ?_)
  refine wpAny_execs_cons (bd_def c o3.hx b5 o3.hd0 o3.hk0 o3.ha o3.hcl o3.hq fun f3 c3 ct3 d3 h6 t6 b6 k6 r6 fA3 fP3 cA3 cP3 e3 cr3 => ?_)
  refine wpAny_execs_cons (bd_def c o4.hx b6 o4.hd0 o4.hk0 o4.ha o4.hcl o4.hq fun f4 c4 ct4 d4 h7 t7 b7 k7 r7 fA4 fP4 cA4 cP4 e4 cr4 => ?_)
  refine wpAny_execs_cons (bd_def c o5.hx b7 o5.hd0 o5.hk0 o5.ha o5.hcl o5.hq fun f5 c5 ct5 d5 h8 t8 b8 k8 r8 fA5 fP5 cA5 cP5 e5 cr5 => ?_)
  refine wpAny_execs_cons (wpAny_Assign_Name (wpAny_Constant_none (bd_store c (.inl l3) b8 fun h9 t9 b9 s9 => ?_)))
  refine wpAny_execs_nil (wpAny_pure ?_)
  have k9 : Kp nsA PK h8 h9 := sb_kp s9
  have kp1 : Kp nsA PK h h1 := sb_kp s1
  refine hR f0 f1 f2 f3 f4 f5 _ t1 _ h9 t9 ⟨(((((((kp1.trans kp2).trans k3).trans k4).trans k5).trans k6).trans k7).trans k8).trans k9,
    KFn.kp ⟨⟨c0, ct0, d0, e0, cr0, cA0, cP0⟩, fA0, fP0⟩ (((((k4.trans k5).trans k6).trans k7).trans k8).trans k9),
    KFn.kp ⟨⟨c1, ct1, d1, e1, cr1, cA1, cP1⟩, fA1, fP1⟩ ((((k5.trans k6).trans k7).trans k8).trans k9),
    KFn.kp ⟨⟨c2, ct2, d2, e2, cr2, cA2, cP2⟩, fA2, fP2⟩ (((k6.trans k7).trans k8).trans k9),
    KFn.kp ⟨⟨c3, ct3, d3, e3, cr3, cA3, cP3⟩, fA3, fP3⟩ ((k7.trans k8).trans k9),
    KFn.kp ⟨⟨c4, ct4, d4, e4, cr4, cA4, cP4⟩, fA4, fP4⟩ (k8.trans k9),
    KFn.kp ⟨⟨c5, ct5, d5, e5, cr5, cA5, cP5⟩, fA5, fP5⟩ k9,
    ((((((k3.trans k4).trans k5).trans k6).trans k7).trans k8).trans k9) _ _ slA slP hsl2, ⟨slA, slP⟩, ?_⟩ b9
  have q2 := kp1.trans kp2
  intro a ha
  simp only [List.mem_cons, List.not_mem_nil, or_false] at ha
  rcases ha with rfl | rfl | rfl | rfl | rfl | rfl | rfl
  · exact kp_none q2 fA0 fP0 r3
  · exact kp_none (q2.trans k3) fA1 fP1 r4
  · exact kp_none ((q2.trans k3).trans k4) fA2 fP2 r5
  · exact kp_none (((q2.trans k3).trans k4).trans k5) fA3 fP3 r6
  · exact kp_none ((((q2.trans k3).trans k4).trans k5).trans k6) fA4 fP4 r7
  · exact kp_none (((((q2.trans k3).trans k4).trans k5).trans k6).trans k7) fA5 fP5 r8
  · exact kp_none kp1 slA slP fsl
end
end Mine


open PySem PySem.W PyProof.Rows PySem.W.X
set_option maxHeartbeats 4000000
set_option pp.deepTerms false
set_option pp.deepTerms.threshold 3

namespace Mine
open PySem PyProof.Rows PySem.Builtin
section
variable {prog : Program} {w : World} {A : Around} {E : Value → Shared → Prop} {h : Heap} {g : Array GenState} {d : Drawn} {t : Nat} {os : OsState} {s : Shared}
theorem putM_dom {m : Str → Option Value} {x : Str} {v : Value} {L : List Str} (h : ∀ n, m n ≠ none → n ∈ L) : ∀ n, putM m x v n ≠ none → n ∈ x :: L := fun n hn => by
  by_cases e : n = x
  · rw [e]; exact .head _
  · exact .tail _ (h n (by unfold putM at hn; rwa [if_neg e] at hn))
theorem putM_quiet {H : Heap} {m : Str → Option Value} {x : Str} {v : Value} (h : ∀ n u, m n = some u → Quiet H u) (hv : Quiet H v) : ∀ n u, putM m x v n = some u → Quiet H u := fun n u e => by
  unfold putM at e
  split at e
  · cases e; exact hv
  · exact h n u e
/- what the class's own names hold -/
noncomputable abbrev kMap (v0 : Value) (qual sm : Str) (tq tf tm : Tok) (fl : Nat) (sl f0 f1 f2 f3 f4 f5 st : Addr) : Str → Option Value :=
  putM (putM (putM (putM (putM (putM (putM (putM (putM (putM (putM (putM (putM (fun zz1 => none) "__module__" v0) "__qualname__" (.str qual tq)) "__firstlineno__" (.int fl tf)) "__module__" (.str sm tm)) "__slots__" (.ref sl)) "__init__" (.ref f0)) "__lt__" (.ref f1)) "__gt__" (.ref f2)) "__eq__" (.ref f3)) "__le__" (.ref f4)) "__ge__" (.ref f5)) "__hash__" .none) "__static_attributes__" (.ref st)

noncomputable def IsFn (h : Heap) (f : Addr) : Prop := ∃ o, h.get? f = some o ∧ o.cls = .type "function"
theorem IsFn.quiet {f : Addr} (x : IsFn h f) : Quiet h (.ref f) := ⟨"function", x, sn_fun⟩

theorem type_made {ns bT sl st f0 f1 f2 f3 f4 f5 : Addr} {v0 : Value} {sm : Str} {tk tq tf tm ts : Tok} {fl : Nat} {Q : Value → Shared → Prop}
    (hb : h.get? bT = some { cls := .type "tuple", data := .seq #[.type "object"] })
    (hn : DictNs h ns (kMap v0 "cmp_to_key.<locals>.K" sm tq tf tm fl sl f0 f1 f2 f3 f4 f5 st)) (hsl : h.get? sl = some { cls := .type "list", data := .seq #[.str "obj" ts] }) (hns : ns ≠ sysModules)
    (i0 : IsFn h f0) (i1 : IsFn h f1) (i2 : IsFn h f2) (i3 : IsFn h f3) (i4 : IsFn h f4) (i5 : IsFn h f5) (hst : ∃ o, h.get? st = some o ∧ o.cls = .type "tuple") (hv0 : ∃ s0 t0, v0 = .str s0 t0) (hno : ∀ C, Looks (model prog w) h (opaqueClassAbove (.ref C)) none)
    (hQ : ∀ C N dsc tkd h' t', h.get? C = none → h.get? N = none → h.get? dsc = none → h'.get? C = some (kObj C N "cmp_to_key.<locals>.K" (some (.ref bT)) (some (.str "K" tk)) (some (.str "cmp_to_key.<locals>.K" tq))) →
      h'.Ns1 N (km7 (kMap v0 "cmp_to_key.<locals>.K" sm tq tf tm fl sl f0 f1 f2 f3 f4 f5 st) dsc) → h'.get? dsc = some (descObj C tkd) → (∀ b o, h.get? b = some o → h'.get? b = some o) → Q (.ref C) ⟨h', g, d, t', os⟩) :
    wpAny (model prog w) A (call (.type "type") [.str "K" tk, .ref bT, .ref ns]) Q E ⟨h, g, d, t, os⟩ := by
  obtain ⟨oN, hnso, hnc⟩ := hn.2
  obtain ⟨s0, t0, rfl⟩ := hv0
  refine type_call (P := fun C s' => ∃ N dsc tkd h' t', s' = ⟨h', g, d, t', os⟩ ∧ h.get? C = none ∧ h.get? N = none ∧ h.get? dsc = none ∧ h'.get? C = some (kObj C N "cmp_to_key.<locals>.K" (some (.ref bT)) (some (.str "K" tk)) (some (.str "cmp_to_key.<locals>.K" tq))) ∧
      h'.Ns1 N (km7 (kMap (.str s0 t0) "cmp_to_key.<locals>.K" sm tq tf tm fl sl f0 f1 f2 f3 f4 f5 st) dsc) ∧ h'.get? dsc = some (descObj C tkd) ∧ (∀ b o, h.get? b = some o → h'.get? b = some o)) (fun A' Q' E' hq' => ?_) ?_ ?_
  · refine type_new (sl := sl) (tk' := ts) (tq := tq) (qn := "cmp_to_key.<locals>.K") hb hn.1 hnso hnc (by simpa using hns) ?_ hsl ?_
      ["__static_attributes__", "__hash__", "__ge__", "__le__", "__eq__", "__gt__", "__lt__", "__init__", "__slots__", "__module__", "__firstlineno__", "__qualname__", "__module__"]
      (putM_dom (putM_dom (putM_dom (putM_dom (putM_dom (putM_dom (putM_dom (putM_dom (putM_dom (putM_dom (putM_dom (putM_dom (putM_dom fun n hn => absurd rfl hn))))))))))))) (by decide) ?_ ?_ ?_ ?_ ?_ ?_ ?_ ?_ ?_ ?_ ?_ rfl rfl ?_ hno
      (fun C N dsc tkd h' t' x1 x2 x3 x4 x5 x6 x7 => hq' C _ ⟨N, dsc, tkd, h', t', rfl, x1, x2, x3, x4, x5, x6, x7⟩)
    any_goals kernel_rfl
    exact putM_quiet (putM_quiet (putM_quiet (putM_quiet (putM_quiet (putM_quiet (putM_quiet (putM_quiet (putM_quiet (putM_quiet (putM_quiet (putM_quiet (putM_quiet (fun n u e => by cases e) ⟨"str", rfl, sn_str⟩) ⟨"str", rfl, sn_str⟩) ⟨"int", rfl, sn_int⟩) ⟨"str", rfl, sn_str⟩)
      ⟨"list", ⟨_, hsl, rfl⟩, sn_list⟩) i0.quiet) i1.quiet) i2.quiet) i3.quiet) i4.quiet) i5.quiet) ⟨"NoneType", rfl, sn_none⟩) ⟨"tuple", hst, sn_tup⟩
  · rintro C s' ⟨N, dsc, tkd, h', t', rfl, x1, x2, x3, x4, x5, x6, x7⟩
    exact ⟨_, x4, rfl⟩
  · rintro C s' ⟨N, dsc, tkd, h', t', rfl, x1, x2, x3, x4, x5, x6, x7⟩
    exact hQ C N dsc tkd h' t' x1 x2 x3 x4 x5 x6 x7
end
end Mine


open PySem PySem.W PyProof.Rows PySem.W.X
set_option maxHeartbeats 4000000
set_option pp.deepTerms false
set_option pp.deepTerms.threshold 3

namespace Mine
open PySem PyProof.Rows PySem.Builtin
section
variable {prog : Program} {w : World} {A : Around} {E : Value → Shared → Prop} {h : Heap} {g : Array GenState} {d : Drawn} {t : Nat} {os : OsState} {s : Shared}

theorem at_getAttr? {M : Model} {v : Value} {n : Str} {Q : Option Value → Shared → Prop} (x : wpAny M A (getAttr? v n) Q E s) : wpAny M A (getAttr? v n) Q E s := x
theorem at_classCode {M : Model} {env : Env} {pos : Pos} {fl : Nat} {n q : Str} {sc : Scope} {Q : Value → Shared → Prop} (x : wpAny M A (classCode env pos fl n q sc) Q E s) : wpAny M A (classCode env pos fl n q sc) Q E s := x
theorem gen_heap' {α : Type} {M : Model} {T : Sem α} {Q : α → Shared → Prop} {H : Heap} (P : Heap → Prop) (hP : P H) (hq : ∀ h2, P h2 → wpAny M A T Q E ⟨h2, g, d, t, os⟩) : wpAny M A T Q E ⟨H, g, d, t, os⟩ := hq H hP
theorem ck_dgi : typeLookup (.type "dict") "__getitem__" = pure (some (.builtin "dict.__getitem__")) := by kernel_rfl
theorem KCode.keep {h h' : Heap} {P : Addr} {pos : Pos} {qual : Str} {qK : Nat → Nat → Str} {pk : Option (Addr × Addr)} (x : KCode h P pos qual qK pk) (k : ∀ b o, h.get? b = some o → h'.get? b = some o) : KCode h' P pos qual qK pk := by
  obtain ⟨ps, a, b, c⟩ := x
  refine ⟨ps, k _ _ a, b, ?_⟩
  cases pk with
  | none => exact c
  | some x => obtain ⟨c1, c2, c3, c4, c5⟩ := c; exact ⟨c1, c2.keeps k, c3.keeps k, c4.keep k, c5⟩
theorem at_enterFrame {M : Model} {Q : Unit → Shared → Prop} (x : wpAny M A enterFrame Q E s) : wpAny M A enterFrame Q E s := x
theorem cls_name {env : Env} {m mg : Str → Option Value} {v : Value} {Q : Value → Shared → Prop} {M : Model} (hk : env.scope.kind = .class) (hb : env.blockKind = .class) (hx : env.kindOf "__name__" = none) (hn : DictNs h env.locals m) (hm : m "__name__" = none) (hge : env.globals = mainGlobals) (hg : h.Ns mainGlobals mg)
    (hv : mg "__name__" = some v) (hq : Q v ⟨h, g, d, t, os⟩) : wpAny M A (loadName env "__name__") Q E ⟨h, g, d, t, os⟩ := by
  obtain ⟨o, ho, hc⟩ := hn.2
  unfold loadName
  rw [hk, hb, hx]
  refine wpAny_bind ?_
  unfold localGet
  refine wpAny_bind (wpAny_load' ho ?_)
  rw [hc]
  refine wpAny_nsGet (s := ⟨h, g, d, t, os⟩) hn.1.ns ?_
  rw [hm]
  unfold loadGlobal
  rw [hge]
  refine wpAny_bind (wpAny_nsGet (s := ⟨h, g, d, t, os⟩) hg ?_)
  rw [hv]
  exact wpAny_pure hq
theorem looks_op {M : Model} {C : Addr} {mc : Str → Option Value} (hn : h.Ns cStatics mc) (e : mc "thirdparty.any" = none) : Looks M h (opaqueClassAbove (.ref C)) none := by
  intro A Q E s k q
  unfold opaqueClassAbove anyOpaqueLoaded
  refine wpAny_bind (wpAny_bind (wpAny_nsGet (hn.keeps k) ?_))
  rw [e]
  exact wpAny_pure (wpAny_pure q)
/- a method of the class -/
noncomputable def KF (h : Heap) (f : Addr) (name : Str) (x : MD) (pm : Value) : Prop :=
  ∃ c' ctv doc, h.get? f = some (fnMade name (("cmp_to_key.<locals>.K" : Str) ++ "." ++ name) x.params x.body x.sc x.clos doc pm c' ctv) ∧ h.CodeRec (.ref c') (("cmp_to_key.<locals>.K" : Str) ++ "." ++ name)
theorem KF.keep {h h' : Heap} {f : Addr} {name : Str} {x : MD} {pm : Value} (y : KF h f name x pm) (k : ∀ b o, h.get? b = some o → h'.get? b = some o) : KF h' f name x pm :=
  let ⟨c', ctv, doc, a, b⟩ := y; ⟨c', ctv, doc, k _ _ a, b.keeps k⟩
theorem KFn.kf {h : Heap} {f nsA PK : Addr} {name : Str} {x : MD} {pm : Value} (y : KFn h f nsA PK name (("cmp_to_key.<locals>.K" : Str) ++ "." ++ name) x pm) : KF h f name x pm :=
  let ⟨c', ctv, doc, a, b, _⟩ := y.at_; ⟨c', ctv, doc, a, b⟩
/- the class as it was made -/
structure KCls (h : Heap) (C N dsc f0 f1 f2 f3 f4 f5 : Addr) (pm : Value) (x0 x1 x2 x3 x4 x5 : MD) : Prop where
  cls : ∃ k0 k2 k3, h.get? C = some (kObj C N "cmp_to_key.<locals>.K" k0 k2 k3)
  ns : ∃ v0 qual sm tq tf tm fl sl st, h.Ns N (km7 (kMap v0 qual sm tq tf tm fl sl f0 f1 f2 f3 f4 f5 st) dsc)
  dsc : ∃ tk, h.get? dsc = some (descObj C tk)
  i : KF h f0 "__init__" x0 pm
  lt : KF h f1 "__lt__" x1 pm
  gt : KF h f2 "__gt__" x2 pm
  eq : KF h f3 "__eq__" x3 pm
  le : KF h f4 "__le__" x4 pm
  ge : KF h f5 "__ge__" x5 pm
structure KMade (h h' : Heap) (P cK PK C N dsc f0 f1 f2 f3 f4 f5 : Addr) (pos : Pos) (qK : Nat → Nat → Str) (pk : Option (Addr × Addr)) (pm : Value) (x0 x1 x2 x3 x4 x5 : MD) : Prop where
  keep : ∀ b o, b ≠ P → b ≠ PK → h.get? b = some o → h'.get? b = some o
  grown : Grown h h' P
  code : KCode h' P pos "cmp_to_key.<locals>.K" qK (some (cK, PK))
  pkn : pk = none → h.get? PK = none
  pks : ∀ x, pk = some x → x = (cK, PK)
  fr : ∀ a ∈ [C, N, dsc, f0, f1, f2, f3, f4, f5], h.get? a = none
  k : KCls h' C N dsc f0 f1 f2 f3 f4 f5 pm x0 x1 x2 x3 x4 x5
theorem at_run {M : Model} {c : Code} {hh : Option Value} {Q : Flow → Shared → Prop} (x : wpAny M A (run c hh) Q E s) : wpAny M A (run c hh) Q E s := x
theorem at_call {M : Model} {c : Value} {vs : List Value} {kw : List (Str × Value)} {Q : Value → Shared → Prop} (x : wpAny M A (call c vs kw) Q E s) : wpAny M A (call c vs kw) Q E s := x
theorem build_class {env : Env} {scope : Scope} {fl : Nat} {pos : Pos} {c P : Addr} {qK : Nat → Nat → Str} {pk : Option (Addr × Addr)} {mg : Str → Option Value} {clos : List (Str × Addr)} {Q : Value → Shared → Prop} {v0 : Value}
    {x0 x1 x2 x3 x4 x5 : MD} {sm : Str} {k1 k2 k3 : Nat} {p1 p2 p3 p4 p5 p6 p7 p8 p9 p10 : Pos}
    (hge : env.globals = mainGlobals) (hcode : env.code = .ref c) (C : CodeHd h c P) (T : KCode h P pos "cmp_to_key.<locals>.K" qK pk) (hg : h.Ns mainGlobals mg) (hb : h.BuiltinsAt mg P) (hcl : closureFor scope env = pure clos)
    (hcc : scope.names.lookup ("__class__" : Str) = none) (hcd : scope.names.lookup ("__classdict__" : Str) = none) (hsm : ∃ o, h.get? sysModules = some o) (hgP : mainGlobals ≠ P)
    (hlim : h.NoLimit) (hlP : cStatics ≠ P) (hdep : A.depth < recursionLimit) (hk : scope.kind = .class) (hv0 : mg "__name__" = some v0)
    (l0 : scope.names.lookup ("__name__" : Str) = none) (l1 : scope.names.lookup ("__module__" : Str) = some .local) (l2 : scope.names.lookup ("__slots__" : Str) = some .local) (l3 : scope.names.lookup ("__hash__" : Str) = some .local)
    (l4 : scope.names.lookup ("__qualname__" : Str) = none) (l5 : scope.names.lookup ("__firstlineno__" : Str) = none) (l6 : scope.names.lookup ("__static_attributes__" : Str) = none)
    (hx : ∀ cenv : Env, cenv.scope = scope → cenv.cells = clos → cenv.qual = ("cmp_to_key.<locals>.K" : Str) ++ "." → x0.Ok cenv scope qK "__init__" ∧ x1.Ok cenv scope qK "__lt__" ∧ x2.Ok cenv scope qK "__gt__" ∧ x3.Ok cenv scope qK "__eq__" ∧ x4.Ok cenv scope qK "__le__" ∧ x5.Ok cenv scope qK "__ge__") (hv0q : ∃ s0 t0, v0 = .str s0 t0) (hop : ∃ mc, h.Ns cStatics mc ∧ mc "thirdparty.any" = none)
    (hQ : ∀ cK PK C N dsc f0 f1 f2 f3 f4 f5 h' t', KMade h h' P cK PK C N dsc f0 f1 f2 f3 f4 f5 pos qK pk ((mg "__name__").getD .none) x0 x1 x2 x3 x4 x5 → Q (.ref C) ⟨h', g, d, t', os⟩) :
    wpAny (model prog w) A (buildClass "K" "cmp_to_key.<locals>.K" [.type "object"] [] [.Assign [.Name "__module__" p1] (.Constant (.str sm) k1 p2) p3, .Assign [.Name "__slots__" p4] (.List [.Constant (.str "obj") k2 p5] p6) p7,
      x0.stmt "__init__", x1.stmt "__lt__", x2.stmt "__gt__", x3.stmt "__eq__", x4.stmt "__le__", x5.stmt "__ge__", .Assign [.Name "__hash__" p8] (.Constant .none k3 p9) p10] scope ["obj"] fl env pos none) Q E ⟨h, g, d, t, os⟩ := by
  have e1 := ck_sub_tt
  have e2 := ck_typeOfObject
  have e3 := ck_dgi
  unfold buildClass
  refine wpAny_bind ?_
  unfold newTuple
  refine wpAny_newObj_type ?_ (by size_fits)
  refine gen_heap' (g := g) (d := d) (t := t) (os := os) (fun h2 => h2.get? h.objs.size = some { cls := .type "tuple", data := .seq #[.type "object"] } ∧ ∀ b o, h.get? b = some o → h2.get? b = some o) ⟨Heap.get?_push_size _ rfl, fun b o e => Heap.get?_push_of_some _ e⟩ ?_
  rintro h1 ⟨hT1, k1⟩
  repeat ((fail_if_success (with_reducible refine at_getAttr? ?_)); (first | with_reducible (first | refine wpAny_pure ?_ | refine wpAny_bind ?_ | refine wpAny_holding ?_ | refine wpAny_rule ?_ | refine wpAny_mkInt' ?_ | (refine Mine.mkStrK ?_ ?_; focus (size_fits; done)) | refine wpAny_fresh' ?_ | refine wpAny_alloc' ?_ | refine wpAny_of_eq (by assumption) ?_ | refine wpAny_typeOf (by assumption) ?_ | refine wpAny_isInstance (by assumption) (by assumption) ?_) | ((with_reducible refine Mine.at_load ?_); (with_reducible apply wpAny_load'); focus (heap_get; done)) | ((with_reducible refine Mine.at_loadPart ?_); (with_reducible apply wpAny_loadPart'); focus (heap_get; done)) | ((with_reducible refine Mine.at_updatePart ?_); (with_reducible apply wpAny_updatePart'); focus (heap_get; done)) | ((with_reducible refine Mine.at_update ?_); (with_reducible apply wpAny_update'); focus (heap_get; done)) | ((with_reducible refine wpAny_ite_false ?_ ?_); focus (rfl; done)) | ((with_reducible refine wpAny_ite_true ?_ ?_); focus (rfl; done)) | wp_delta))
  refine prep_attr fun pr h2 t2 hpn hp2 k2 => ?_
  (first | with_reducible (first | refine wpAny_pure ?_ | refine wpAny_bind ?_ | refine wpAny_holding ?_ | refine wpAny_rule ?_ | refine wpAny_mkInt' ?_ | (refine Mine.mkStrK ?_ ?_; focus (size_fits; done)) | refine wpAny_fresh' ?_ | refine wpAny_alloc' ?_ | refine wpAny_of_eq (by assumption) ?_ | refine wpAny_typeOf (by assumption) ?_ | refine wpAny_isInstance (by assumption) (by assumption) ?_) | ((with_reducible refine Mine.at_load ?_); (with_reducible apply wpAny_load'); focus (heap_get; done)) | ((with_reducible refine Mine.at_loadPart ?_); (with_reducible apply wpAny_loadPart'); focus (heap_get; done)) | ((with_reducible refine Mine.at_updatePart ?_); (with_reducible apply wpAny_updatePart'); focus (heap_get; done)) | ((with_reducible refine Mine.at_update ?_); (with_reducible apply wpAny_update'); focus (heap_get; done)) | ((with_reducible refine wpAny_ite_false ?_ ?_); focus (rfl; done)) | ((with_reducible refine wpAny_ite_true ?_ ?_); focus (rfl; done)) | wp_delta)
  refine prep_call hp2 fun ns h3 hnn hn3 k3 => ?_
  have k13 : ∀ b o, h.get? b = some o → h3.get? b = some o := fun b o e => k3 b o (k2 b o (k1 b o e))
  have hns : ns ≠ sysModules := fun z => by
    obtain ⟨o, e⟩ := hsm
    rw [← z] at e
    rw [k2 _ _ (k1 _ _ e)] at hnn; cases hnn
  have hTn : (⟨h3, g, d, t2, os⟩ : Shared).TypeIs (.ref ns) "dict" := ⟨_, hn3, rfl⟩
  iterate 2 ((first | with_reducible (first | refine wpAny_pure ?_ | refine wpAny_bind ?_ | refine wpAny_holding ?_ | refine wpAny_rule ?_ | refine wpAny_mkInt' ?_ | (refine Mine.mkStrK ?_ ?_; focus (size_fits; done)) | refine wpAny_fresh' ?_ | refine wpAny_alloc' ?_ | refine wpAny_of_eq (by assumption) ?_ | refine wpAny_typeOf (by assumption) ?_ | refine wpAny_isInstance (by assumption) (by assumption) ?_) | ((with_reducible refine Mine.at_load ?_); (with_reducible apply wpAny_load'); focus (heap_get; done)) | ((with_reducible refine Mine.at_loadPart ?_); (with_reducible apply wpAny_loadPart'); focus (heap_get; done)) | ((with_reducible refine Mine.at_updatePart ?_); (with_reducible apply wpAny_updatePart'); focus (heap_get; done)) | ((with_reducible refine Mine.at_update ?_); (with_reducible apply wpAny_update'); focus (heap_get; done)) | ((with_reducible refine wpAny_ite_false ?_ ?_); focus (rfl; done)) | ((with_reducible refine wpAny_ite_true ?_ ?_); focus (rfl; done)) | wp_delta))
  refine wpAny_ite_false (decide_eq_false (by simpa using hns)) ?_
  repeat ((fail_if_success (with_reducible refine at_classCode ?_)); first | (refine wpAny_ite_false (by first | (rw [hcc]; rfl) | (rw [hcd]; rfl)) ?_) | (first | with_reducible (first | refine wpAny_pure ?_ | refine wpAny_bind ?_ | refine wpAny_holding ?_ | refine wpAny_rule ?_ | refine wpAny_mkInt' ?_ | (refine Mine.mkStrK ?_ ?_; focus (size_fits; done)) | refine wpAny_fresh' ?_ | refine wpAny_alloc' ?_ | refine wpAny_of_eq (by assumption) ?_ | refine wpAny_typeOf (by assumption) ?_ | refine wpAny_isInstance (by assumption) (by assumption) ?_) | ((with_reducible refine Mine.at_load ?_); (with_reducible apply wpAny_load'); focus (heap_get; done)) | ((with_reducible refine Mine.at_loadPart ?_); (with_reducible apply wpAny_loadPart'); focus (heap_get; done)) | ((with_reducible refine Mine.at_updatePart ?_); (with_reducible apply wpAny_updatePart'); focus (heap_get; done)) | ((with_reducible refine Mine.at_update ?_); (with_reducible apply wpAny_update'); focus (heap_get; done)) | ((with_reducible refine wpAny_ite_false ?_ ?_); focus (rfl; done)) | ((with_reducible refine wpAny_ite_true ?_ ?_); focus (rfl; done)) | wp_delta))
  refine class_code hcode (C.keeps k13) (T.keep k13) fun cK PK h4 t4 x4 gr4 T4 pn ps => ?_
  obtain ⟨bm, ob, hbm, hne0, _, hneP, hbo, hcls, hdict, hdata⟩ := hb
  have hg4 : h4.Ns mainGlobals mg := (hg.keeps k13).extBut x4 hgP
  have hbo4 := x4 _ _ hneP (k13 _ _ hbo)
  rw [hge]
  have hbmP : bm ≠ PK := fun z => by
    obtain ⟨_, _, _, _, _, _, ⟨ps, e, _⟩, _⟩ := T4
    rw [← z, hbo4] at e; cases e; cases hcls
  (first | with_reducible (first | refine wpAny_pure ?_ | refine wpAny_bind ?_ | refine wpAny_holding ?_ | refine wpAny_rule ?_ | refine wpAny_mkInt' ?_ | (refine Mine.mkStrK ?_ ?_; focus (size_fits; done)) | refine wpAny_fresh' ?_ | refine wpAny_alloc' ?_ | refine wpAny_of_eq (by assumption) ?_ | refine wpAny_typeOf (by assumption) ?_ | refine wpAny_isInstance (by assumption) (by assumption) ?_) | ((with_reducible refine Mine.at_load ?_); (with_reducible apply wpAny_load'); focus (heap_get; done)) | ((with_reducible refine Mine.at_loadPart ?_); (with_reducible apply wpAny_loadPart'); focus (heap_get; done)) | ((with_reducible refine Mine.at_updatePart ?_); (with_reducible apply wpAny_updatePart'); focus (heap_get; done)) | ((with_reducible refine Mine.at_update ?_); (with_reducible apply wpAny_update'); focus (heap_get; done)) | ((with_reducible refine wpAny_ite_false ?_ ?_); focus (rfl; done)) | ((with_reducible refine wpAny_ite_true ?_ ?_); focus (rfl; done)) | wp_delta)
  refine wpAny_builtinsFor hg4 hbm hne0 hbo4 hcls hdict hdata ?_
  repeat ((fail_if_success (with_reducible refine at_enterFrame ?_)); first | (with_reducible refine wpAny_nsGet hg4 ?_) | (with_reducible refine wpAny_of_eq hcl ?_) | (first | with_reducible (first | refine wpAny_pure ?_ | refine wpAny_bind ?_ | refine wpAny_holding ?_ | refine wpAny_rule ?_ | refine wpAny_mkInt' ?_ | (refine Mine.mkStrK ?_ ?_; focus (size_fits; done)) | refine wpAny_fresh' ?_ | refine wpAny_alloc' ?_ | refine wpAny_of_eq (by assumption) ?_ | refine wpAny_typeOf (by assumption) ?_ | refine wpAny_isInstance (by assumption) (by assumption) ?_) | ((with_reducible refine Mine.at_load ?_); (with_reducible apply wpAny_load'); focus (heap_get; done)) | ((with_reducible refine Mine.at_loadPart ?_); (with_reducible apply wpAny_loadPart'); focus (heap_get; done)) | ((with_reducible refine Mine.at_updatePart ?_); (with_reducible apply wpAny_updatePart'); focus (heap_get; done)) | ((with_reducible refine Mine.at_update ?_); (with_reducible apply wpAny_update'); focus (heap_get; done)) | ((with_reducible refine wpAny_ite_false ?_ ?_); focus (rfl; done)) | ((with_reducible refine wpAny_ite_true ?_ ?_); focus (rfl; done)) | wp_delta))
  have k4 : ∀ b o, b ≠ P → h3.get? b = some o → h4.get? b = some o := x4
  have nP : ns ≠ P := fun z => by
    obtain ⟨ps, e, _⟩ := T
    rw [z, k2 _ _ (k1 _ _ e)] at hnn; cases hnn
  have fK : ∀ b o, h.get? b = some o → b ≠ ns := fun b o e z => by rw [← z, k2 _ _ (k1 _ _ e)] at hnn; cases hnn
  obtain ⟨psP, eP, trP, aP, crP, hdP, tabP, nPK, nPc, ncK⟩ := id T4
  have hn4 := x4 _ _ nP hn3
  have nsPK : ns ≠ PK := fun z => by
    obtain ⟨ps, e, _⟩ := tabP
    rw [← z, hn4] at e; cases e
  have nscK : ns ≠ cK := fun z => by
    obtain ⟨o, vs, _, _, _, _, _, _, _, e, ec, _⟩ := id hdP
    rw [← z, hn4] at e; cases e
    have q : (Value.type "dict") = .type "code" := ec
    injection q with q
    exact absurd q (by decide)
  obtain ⟨og, esg, epg, hog, hdg, _⟩ := id hg4
  have gPK : mainGlobals ≠ PK := fun z => by
    obtain ⟨ps, e, _⟩ := tabP
    rw [← z, hog] at e; cases e; cases hdg
  have gns : mainGlobals ≠ ns := by obtain ⟨o, _, _, e, _⟩ := id hg; exact fK _ _ e
  refine gen_heap' (g := g) (d := d) (t := t4) (os := os) (fun h5 => Bd h5 ns cK PK qK mg (fun zz1 => none) ∧ ∀ b o, h4.get? b = some o → h5.get? b = some o) ⟨?_, fun b o e => Heap.get?_push_of_some _ e⟩ ?_
  · refine Bd.push ⟨⟨⟨_, #[], _, hn4, rfl, fun e he => absurd he (Array.not_mem_empty _), by unfold UniqKeys; exact .nil, fun n => rfl⟩, _, hn4, rfl⟩, tabP, hdP, hg4, ⟨bm, ob, hbm, hne0, by assumption, hbmP, hbo4, hcls, hdict, hdata⟩, nsPK, nscK, gns, gPK, bm, hbm, fK _ _ hbo⟩
  rintro h5 ⟨b5, k5⟩
  have lim5 : h5.NoLimit := by
    obtain ⟨mc, n, e⟩ := hlim
    obtain ⟨oc, es, ep, q, r⟩ := n
    exact ⟨mc, ⟨oc, es, ep, k5 _ _ (x4 _ _ hlP (k13 _ _ q)), r⟩, e⟩
  refine wpAny_enterFrame lim5 hdep ?_
  (first | with_reducible (first | refine wpAny_pure ?_ | refine wpAny_bind ?_ | refine wpAny_holding ?_ | refine wpAny_rule ?_ | refine wpAny_mkInt' ?_ | (refine Mine.mkStrK ?_ ?_; focus (size_fits; done)) | refine wpAny_fresh' ?_ | refine wpAny_alloc' ?_ | refine wpAny_of_eq (by assumption) ?_ | refine wpAny_typeOf (by assumption) ?_ | refine wpAny_isInstance (by assumption) (by assumption) ?_) | ((with_reducible refine Mine.at_load ?_); (with_reducible apply wpAny_load'); focus (heap_get; done)) | ((with_reducible refine Mine.at_loadPart ?_); (with_reducible apply wpAny_loadPart'); focus (heap_get; done)) | ((with_reducible refine Mine.at_updatePart ?_); (with_reducible apply wpAny_updatePart'); focus (heap_get; done)) | ((with_reducible refine Mine.at_update ?_); (with_reducible apply wpAny_update'); focus (heap_get; done)) | ((with_reducible refine wpAny_ite_false ?_ ?_); focus (rfl; done)) | ((with_reducible refine wpAny_ite_true ?_ ?_); focus (rfl; done)) | wp_delta)
  refine wpAny_onRaise ?_
  have hbk : (if scope.kind.isAnnotationScope then ScopeKind.function else scope.kind) = .class := by rw [hk]; rfl
  refine wpAny_bind (cls_name (env := _) hk hbk l0 b5.ns rfl rfl b5.g hv0 ?_)
  refine wpAny_bind (bd_store (nsA := ns) (cK := cK) (scope := scope) ⟨rfl, hk, rfl, rfl, rfl⟩ (.inl l1) b5 fun h6 t6 b6 s6 => ?_)
  refine wpAny_bind (wpAny_mkText (wpAny_bind (bd_store (nsA := ns) (cK := cK) (scope := scope) ⟨rfl, hk, rfl, rfl, rfl⟩ (.inr ⟨l4, by decide +kernel⟩) b6 fun h7 t7 b7 s7 => ?_)))
  refine wpAny_bind (wpAny_mkInt' (wpAny_bind (bd_store (nsA := ns) (cK := cK) (scope := scope) ⟨rfl, hk, rfl, rfl, rfl⟩ (.inr ⟨l5, by decide +kernel⟩) b7 fun h8 t8 b8 s8 => ?_)))
  repeat ((fail_if_success (with_reducible refine at_run ?_)); (first | with_reducible (first | refine wpAny_pure ?_ | refine wpAny_bind ?_ | refine wpAny_holding ?_ | refine wpAny_rule ?_ | refine wpAny_mkInt' ?_ | (refine Mine.mkStrK ?_ ?_; focus (size_fits; done)) | refine wpAny_fresh' ?_ | refine wpAny_alloc' ?_ | refine wpAny_of_eq (by assumption) ?_ | refine wpAny_typeOf (by assumption) ?_ | refine wpAny_isInstance (by assumption) (by assumption) ?_) | ((with_reducible refine Mine.at_load ?_); (with_reducible apply wpAny_load'); focus (heap_get; done)) | ((with_reducible refine Mine.at_loadPart ?_); (with_reducible apply wpAny_loadPart'); focus (heap_get; done)) | ((with_reducible refine Mine.at_updatePart ?_); (with_reducible apply wpAny_updatePart'); focus (heap_get; done)) | ((with_reducible refine Mine.at_update ?_); (with_reducible apply wpAny_update'); focus (heap_get; done)) | ((with_reducible refine wpAny_ite_false ?_ ?_); focus (rfl; done)) | ((with_reducible refine wpAny_ite_true ?_ ?_); focus (rfl; done)) | wp_delta))
  refine wpAny_run ?_
  refine body_run (nsA := ns) (cK := cK) (scope := scope) ⟨rfl, hk, rfl, rfl, rfl⟩ b8 (hx _ rfl rfl rfl).1 (hx _ rfl rfl rfl).2.1 (hx _ rfl rfl rfl).2.2.1 (hx _ rfl rfl rfl).2.2.2.1 (hx _ rfl rfl rfl).2.2.2.2.1 (hx _ rfl rfl rfl).2.2.2.2.2 l1 l2 l3 fun f0 f1 f2 f3 f4 f5 sl ts tm h9 t9 kb b9 => ?_
  repeat ((fail_if_success (with_reducible refine at_call ?_)); first | (with_reducible refine wpAny_onRaise ?_) | (with_reducible refine wpAny_mkStrs fun vsS => ?_) | (with_reducible refine wpAny_newTextTuple ?_) | (refine bd_store (nsA := ns) (cK := cK) (scope := scope) ⟨rfl, hk, rfl, rfl, rfl⟩ (.inr ⟨l6, by decide +kernel⟩) b9.push fun h10 t10 b10 s10 => ?_) | (first | with_reducible (first | refine wpAny_pure ?_ | refine wpAny_bind ?_ | refine wpAny_holding ?_ | refine wpAny_rule ?_ | refine wpAny_mkInt' ?_ | (refine Mine.mkStrK ?_ ?_; focus (size_fits; done)) | refine wpAny_fresh' ?_ | refine wpAny_alloc' ?_ | refine wpAny_of_eq (by assumption) ?_ | refine wpAny_typeOf (by assumption) ?_ | refine wpAny_isInstance (by assumption) (by assumption) ?_) | ((with_reducible refine Mine.at_load ?_); (with_reducible apply wpAny_load'); focus (heap_get; done)) | ((with_reducible refine Mine.at_loadPart ?_); (with_reducible apply wpAny_loadPart'); focus (heap_get; done)) | ((with_reducible refine Mine.at_updatePart ?_); (with_reducible apply wpAny_updatePart'); focus (heap_get; done)) | ((with_reducible refine Mine.at_update ?_); (with_reducible apply wpAny_update'); focus (heap_get; done)) | ((with_reducible refine wpAny_ite_false ?_ ?_); focus (rfl; done)) | ((with_reducible refine wpAny_ite_true ?_ ?_); focus (rfl; done)) | wp_delta))
  have hstN : h9.objs.size ≠ ns := fun z => by obtain ⟨o, e, _⟩ := b9.ns.2; rw [← z, get_size] at e; cases e
  have hst : ∃ o, h10.get? h9.objs.size = some o ∧ o.cls = .type "tuple" := ⟨_, s10.extBut _ _ hstN (Heap.get?_push_size _ rfl), rfl⟩
  have k9 : Kp ns PK h9 h10 := fun b o p q e => s10.extBut _ _ p (Heap.get?_push_of_some _ e)
  have k58 : ∀ b o, b ≠ ns → h4.get? b = some o → h8.get? b = some o := fun b o q e => s8.extBut _ _ q (s7.extBut _ _ q (s6.extBut _ _ q (k5 _ _ e)))
  have kAll : ∀ b o, b ≠ P → b ≠ ns → b ≠ PK → h3.get? b = some o → h10.get? b = some o := fun b o p q r e => k9 _ _ q r (kb.kp _ _ q r (k58 _ _ q (x4 _ _ p e)))
  have bTP : h.objs.size ≠ P := fun z => by obtain ⟨ps, e, _⟩ := T; rw [← z, get_size] at e; cases e
  have bTn : h.objs.size ≠ ns := fun z => by rw [← z, k2 _ _ hT1] at hnn; cases hnn
  have hT3 := k3 _ _ (k2 _ _ hT1)
  have bTK : h.objs.size ≠ PK := fun z => by
    obtain ⟨ps, e, _⟩ := tabP
    rw [← z, x4 _ _ bTP hT3] at e; cases e
  have hbT := kAll _ _ bTP bTn bTK hT3
  have csPK : cStatics ≠ PK := fun z => by
    obtain ⟨mc, ⟨o, es, ep, q, qd, _⟩, _⟩ := id hlim
    obtain ⟨ps, e, _⟩ := tabP
    rw [← z, x4 _ _ hlP (k13 _ _ q)] at e; cases e; cases qd
  have hno10 : ∀ C, Looks (model prog w) h10 (opaqueClassAbove (.ref C)) none := fun C => by
    obtain ⟨mc, ⟨o, es, ep, q, r⟩, e⟩ := hop
    exact looks_op ⟨o, es, ep, kAll _ _ hlP (fK _ _ q) csPK (k13 _ _ q), r⟩ e
  have isf : ∀ {f : Addr} {name q : Str} {x : MD}, KFn h9 f ns PK name q x ((mg "__name__").getD .none) → IsFn h10 f := fun y => by
    obtain ⟨⟨c', ctv, doc, e, _⟩, _⟩ := y.kp k9
    exact ⟨_, e, rfl⟩
  refine type_made hbT b10.ns (k9 _ _ kb.sn.1 kb.sn.2 kb.sla) hns (isf kb.i) (isf kb.lt) (isf kb.gt) (isf kb.eq) (isf kb.le) (isf kb.ge) hst hv0q hno10 fun C N dsc tkd h11 t11 y1 y2 y3 y4 y5 y6 y7 => ?_
  repeat (first | with_reducible (first | refine wpAny_pure ?_ | refine wpAny_bind ?_ | refine wpAny_holding ?_ | refine wpAny_rule ?_ | refine wpAny_mkInt' ?_ | (refine Mine.mkStrK ?_ ?_; focus (size_fits; done)) | refine wpAny_fresh' ?_ | refine wpAny_alloc' ?_ | refine wpAny_of_eq (by assumption) ?_ | refine wpAny_typeOf (by assumption) ?_ | refine wpAny_isInstance (by assumption) (by assumption) ?_) | ((with_reducible refine Mine.at_load ?_); (with_reducible apply wpAny_load'); focus (heap_get; done)) | ((with_reducible refine Mine.at_loadPart ?_); (with_reducible apply wpAny_loadPart'); focus (heap_get; done)) | ((with_reducible refine Mine.at_updatePart ?_); (with_reducible apply wpAny_updatePart'); focus (heap_get; done)) | ((with_reducible refine Mine.at_update ?_); (with_reducible apply wpAny_update'); focus (heap_get; done)) | ((with_reducible refine wpAny_ite_false ?_ ?_); focus (rfl; done)) | ((with_reducible refine wpAny_ite_true ?_ ?_); focus (rfl; done)) | wp_delta)
  have there : ∀ b o, h.get? b = some o → ∃ o', h10.get? b = some o' := fun b o e => by
    by_cases e1 : b = P
    · exact ⟨_, e1 ▸ k9 _ _ (fun z => nP z.symm) nPK (kb.kp _ _ (fun z => nP z.symm) nPK (k58 _ _ (fun z => nP z.symm) eP))⟩
    by_cases e2 : b = PK
    · obtain ⟨ps, e', _⟩ := b10.tab; exact ⟨_, e2 ▸ e'⟩
    · exact ⟨o, kAll _ _ e1 (fK _ _ e) e2 (k13 _ _ e)⟩
  have there8 : ∀ b o, h.get? b = some o → ∃ o', h8.get? b = some o' := fun b o e => by
    by_cases e1 : b = P
    · exact ⟨_, e1 ▸ k58 _ _ (fun z => nP z.symm) eP⟩
    · exact ⟨o, k58 _ _ (fK _ _ e) (x4 _ _ e1 (k13 _ _ e))⟩
  have fr10 : ∀ a, h10.get? a = none → h.get? a = none := fun a e => by
    cases q : h.get? a with
    | none => rfl
    | some o => obtain ⟨o', e'⟩ := there a o q; rw [e'] at e; cases e
  have fr8 : ∀ a, h8.get? a = none → h.get? a = none := fun a e => by
    cases q : h.get? a with
    | none => rfl
    | some o => obtain ⟨o', e'⟩ := there8 a o q; rw [e'] at e; cases e
  have eP11 : h11.get? P = some (tabObj psP) := y7 _ _ (k9 _ _ (fun z => nP z.symm) nPK (kb.kp _ _ (fun z => nP z.symm) nPK (k58 _ _ (fun z => nP z.symm) eP)))
  have cKn : cK ≠ ns := fun z => nscK z.symm
  refine hQ cK PK C N dsc f0 f1 f2 f3 f4 f5 h11 t11 ⟨fun b o e1 e2 e => y7 _ _ (kAll _ _ e1 (fK _ _ e) e2 (k13 _ _ e)), ?_, ⟨psP, eP11, trP, aP, ?_, b10.hd.keeps y7, b10.tab.keep y7, nPK, nPc, ncK⟩, fun z => ?_, ps, ?_, ⟨⟨_, _, _, y4⟩, ⟨_, _, _, _, _, _, _, _, _, y5.ns⟩, ⟨_, y6⟩, ((kb.i.kp k9).kf).keep y7, ((kb.lt.kp k9).kf).keep y7, ((kb.gt.kp k9).kf).keep y7, ((kb.eq.kp k9).kf).keep y7, ((kb.le.kp k9).kf).keep y7, ((kb.ge.kp k9).kf).keep y7⟩⟩
  · obtain ⟨psA, more, g1, g2⟩ := gr4
    obtain ⟨psB, eB, _⟩ := id T
    have : psA = psB := by have := (k13 _ _ eB).symm.trans g1; injection this with q; injection q with _ _ q; injection q with q; exact q.symm
    subst this
    rw [eP] at g2; cases g2
    exact ⟨psA, more, eB, eP11⟩
  · exact (codeRec_kp (codeRec_kp crP (fun b o p q e => k58 _ _ p e) cKn ncK) (kb.kp.trans k9) cKn ncK).keeps y7
  · have := pn z
    cases q : h.get? PK with
    | none => rfl
    | some o => rw [k13 _ _ q] at this; cases this
  · intro a ha
    simp only [List.mem_cons, List.not_mem_nil, or_false] at ha
    rcases ha with rfl | rfl | rfl | rfl | rfl | rfl | rfl | rfl | rfl
    · exact fr10 _ y1
    · exact fr10 _ y2
    · exact fr10 _ y3
    all_goals exact fr8 _ (kb.fr _ (by simp))
end
end Mine


open PySem PySem.W PyProof.Rows PySem.W.X
set_option maxHeartbeats 4000000
set_option pp.deepTerms false
set_option pp.deepTerms.threshold 3

namespace Mine
open PySem PyProof.Rows PySem.Builtin
noncomputable def fPos : Stmt → Pos
  | .FunctionDef _ _ _ _ _ _ _ _ _ p => p
  | _ => default
noncomputable def mdOf (st : Stmt) (clos : List (Str × Addr)) : MD := ⟨fArgs st, fBody st, fScope st, fPos st, clos⟩
noncomputable def mc1 (cc : Addr) : List (Str × Addr) := [("mycmp", cc)]
/- the class's text: where its parts stand -/
structure KSrc where
  pb : Pos
  p1 : Pos
  p2 : Pos
  p3 : Pos
  p4 : Pos
  p5 : Pos
  p6 : Pos
  p7 : Pos
  p8 : Pos
  p9 : Pos
  p10 : Pos
  pos : Pos
  k1 : Nat
  k2 : Nat
  k3 : Nat
  sm : Str
  stI : Stmt
  stLt : Stmt
  stGt : Stmt
  stEq : Stmt
  stLe : Stmt
  stGe : Stmt
  scope : Scope
noncomputable def kOf : Stmt → Option KSrc
  | .ClassDef _ [.Name _ pb] _ [.Assign [.Name _ p1] (.Constant (.str sm) k1 p2) p3, .Assign [.Name _ p4] (.List [.Constant _ k2 p5] p6) p7, sI, sLt, sGt, sEq, sLe, sGe, .Assign [.Name _ p8] (.Constant _ k3 p9) p10] _ _ scope _ _ _ pos =>
    some ⟨pb, p1, p2, p3, p4, p5, p6, p7, p8, p9, p10, pos, k1, k2, k3, sm, sI, sLt, sGt, sEq, sLe, sGe, scope⟩
  | _ => none
noncomputable def KSrc.stmt (k : KSrc) : Stmt := .ClassDef "K" [.Name "object" k.pb] [] [.Assign [.Name "__module__" k.p1] (.Constant (.str k.sm) k.k1 k.p2) k.p3, .Assign [.Name "__slots__" k.p4] (.List [.Constant (.str "obj") k.k2 k.p5] k.p6) k.p7,
  k.stI, k.stLt, k.stGt, k.stEq, k.stLe, k.stGe, .Assign [.Name "__hash__" k.p8] (.Constant .none k.k3 k.p9) k.p10] [] [] k.scope none "K" ["obj"] k.pos
noncomputable def kq (name : Str) : Str := ("cmp_to_key.<locals>.K" : Str) ++ "." ++ name
noncomputable def KSrc.qK (k : KSrc) : Nat → Nat → Str := fun l c =>
  if l == (fPos k.stI).line && c == (fPos k.stI).col then kq "__init__" else if l == (fPos k.stLt).line && c == (fPos k.stLt).col then kq "__lt__" else if l == (fPos k.stGt).line && c == (fPos k.stGt).col then kq "__gt__" else
  if l == (fPos k.stEq).line && c == (fPos k.stEq).col then kq "__eq__" else if l == (fPos k.stLe).line && c == (fPos k.stLe).col then kq "__le__" else kq "__ge__"
structure IsM (k : KSrc) (st : Stmt) (name : Str) (free : Bool) : Prop where
  shape : ∀ clos, (mdOf st clos).stmt name = st
  hd0 : (fArgs st).defaults = []
  hk0 : (fArgs st).kw_defaults = []
  ha : ∀ env, annTrees (fArgs st) none env = []
  fr : ∀ x, (x, NameKind.free) ∈ (fScope st).names → free = true ∧ x = "mycmp"
  clos : ∀ env, Mine.clos env (fScope st).names [] = if free then mc1 ((env.cells.lookup ("mycmp" : Str)).getD 0) else []
  hq : k.qK (fPos st).line (fPos st).col = kq name
  hx : k.scope.names.lookup name = some .local
structure KSrc.Ok (k : KSrc) : Prop where
  i : IsM k k.stI "__init__" false
  lt : IsM k k.stLt "__lt__" true
  gt : IsM k k.stGt "__gt__" true
  eq : IsM k k.stEq "__eq__" true
  le : IsM k k.stLe "__le__" true
  ge : IsM k k.stGe "__ge__" true
  hk : k.scope.kind = .class
  hcc : k.scope.names.lookup ("__class__" : Str) = none
  hcd : k.scope.names.lookup ("__classdict__" : Str) = none
  l0 : k.scope.names.lookup ("__name__" : Str) = none
  l1 : k.scope.names.lookup ("__module__" : Str) = some .local
  l2 : k.scope.names.lookup ("__slots__" : Str) = some .local
  l3 : k.scope.names.lookup ("__hash__" : Str) = some .local
  l4 : k.scope.names.lookup ("__qualname__" : Str) = none
  l5 : k.scope.names.lookup ("__firstlineno__" : Str) = none
  l6 : k.scope.names.lookup ("__static_attributes__" : Str) = none
  fr : ∀ x, (x, NameKind.free) ∈ k.scope.names → x = "mycmp"
  clos : ∀ env, Mine.clos env k.scope.names [] = mc1 ((env.cells.lookup ("mycmp" : Str)).getD 0)

theorem IsM.ok {k : KSrc} {st : Stmt} {name : Str} {b : Bool} (x : IsM k st name b) {cc : Addr} {env : Env} (hc : env.cells = (mc1 cc)) (hq : env.qual = ("cmp_to_key.<locals>.K" : Str) ++ ".") : (mdOf st (if b then (mc1 cc) else [])).Ok env k.scope k.qK name where
  hd0 := x.hd0
  hk0 := x.hk0
  ha := x.ha env
  hcl := by
    have e : env.cells.lookup ("mycmp" : Str) = some cc := by rw [hc]; rfl
    show closureFor (fScope st) env = _
    rw [closureFor_clos fun y hy => ⟨cc, by rw [(x.fr y hy).2]; exact e⟩, x.clos, e]
    rfl
  hq := by rw [hq]; exact x.hq
  hx := x.hx

section
variable {prog : Program} {w : World} {A : Around} {E : Value → Shared → Prop} {h : Heap} {g : Array GenState} {d : Drawn} {t : Nat} {os : OsState} {s : Shared}

/- the class made with the cell cc -/
noncomputable abbrev KMadeS (k : KSrc) (cc : Addr) (h h' : Heap) (P cK PK C N dsc f0 f1 f2 f3 f4 f5 : Addr) (pk : Option (Addr × Addr)) (pm : Value) : Prop :=
  KMade h h' P cK PK C N dsc f0 f1 f2 f3 f4 f5 k.pos k.qK pk pm (mdOf k.stI []) (mdOf k.stLt (mc1 cc)) (mdOf k.stGt (mc1 cc)) (mdOf k.stEq (mc1 cc)) (mdOf k.stLe (mc1 cc)) (mdOf k.stGe (mc1 cc))

/- what the frame around must be -/
structure CmpEnv (env : Env) (h : Heap) (k : KSrc) (c P cc : Addr) (pk : Option (Addr × Addr)) (mg mb ml : Str → Option Value) (v0 : Value) : Prop where
  kind : env.scope.kind = .function
  glob : env.globals = mainGlobals
  bi : env.builtins = builtinsNs
  code : env.code = .ref c
  qual : env.qual ++ "K" = "cmp_to_key.<locals>.K"
  kK : env.kindOf "K" = some .local
  kO : env.kindOf "object" = some .globalImplicit
  cell : env.cells.lookup ("mycmp" : Str) = some cc
  loc : h.Ns env.locals ml
  hd : CodeHd h c P
  kc : KCode h P k.pos "cmp_to_key.<locals>.K" k.qK pk
  g : h.Ns mainGlobals mg
  b : h.Ns builtinsNs mb
  ba : h.BuiltinsAt mg P
  go : mg "object" = none
  bo : mb "object" = some (.type "object")
  bb : mb "__build_class__" = some (.builtin "__build_class__")
  gn : mg "__name__" = some v0
  v0 : ∃ s0 t0, v0 = .str s0 t0
  sm : ∃ o, h.get? sysModules = some o
  lim : h.NoLimit
  op : ∃ mc, h.Ns cStatics mc ∧ mc "thirdparty.any" = none
  gP : mainGlobals ≠ P
  sP : cStatics ≠ P
  lP : env.locals ≠ P
  lPK : ∀ x, pk = some x → env.locals ≠ x.2

theorem at_build {M : Model} {a b : Str} {c : List Value} {e : List (Str × Value)} {f : List Stmt} {sc : Scope} {st : List Str} {n : Nat} {env : Env} {pos : Pos} {o : Option Value} {Q : Value → Shared → Prop} (x : wpAny M A (buildClass a b c e f sc st n env pos o) Q E s) : wpAny M A (buildClass a b c e f sc st n env pos o) Q E s := x
theorem cmp_body {env : Env} {k : KSrc} {c P cc : Addr} {pk : Option (Addr × Addr)} {mg mb ml : Str → Option Value} {v0 : Value} {pr pr' : Pos} {Q : Flow → Shared → Prop} (ko : k.Ok) (ce : CmpEnv env h k c P cc pk mg mb ml v0) (hdep : A.depth < recursionLimit)
    (hQ : ∀ cK PK C N dsc f0 f1 f2 f3 f4 f5 h1 h2 t2, KMadeS k cc h h1 P cK PK C N dsc f0 f1 f2 f3 f4 f5 pk ((mg "__name__").getD .none) → Heap.SameBut env.locals h1 h2 → Q (.ret (.ref C)) ⟨h2, g, d, t2, os⟩) :
    wpAny (model prog w) A (execs [k.stmt, .Return (some (.Name "K" pr)) pr'] env) Q E ⟨h, g, d, t, os⟩ := by
  refine wpAny_execs_cons ?_
  unfold KSrc.stmt
  rw [arm_exec_ClassDef]
  refine wpAny_bind (wpAny_pure (wpAny_bind (wpAny_standAt (wpAny_bind ?_))))
  unfold buildClassGuard
  rw [ce.bi]
  refine wpAny_bind (wpAny_nsGet (s := ⟨h, g, d, t, os⟩) ce.b ?_)
  rw [ce.bb]
  refine wpAny_pure (wpAny_bind (wpAny_holding (wpAny_bind ?_)))
  have hqn : qualnameIn env "K" "K" = "cmp_to_key.<locals>.K" := by
    unfold qualnameIn; rw [ce.kK]; exact ce.qual
  unfold evalArgs
  iterate 4 ((first | with_reducible (first | refine wpAny_pure ?_ | refine wpAny_bind ?_ | refine wpAny_holding ?_ | refine wpAny_rule ?_ | refine wpAny_standAt ?_ | refine wpAny_of_eq (by assumption) ?_) | ((with_reducible refine wpAny_ite_false ?_ ?_); focus (rfl; done)) | ((with_reducible refine wpAny_ite_true ?_ ?_); focus (rfl; done)) | wp_delta))
  refine Calls.Name_function_global ce.kind ce.kO (Calls.loadGlobal_builtin (s := ⟨h, g, d, t, os⟩) (by rw [ce.glob]; exact ce.g) ce.go (by rw [ce.bi]; exact ce.b) ce.bo ?_) (by decide +kernel)
  repeat ((fail_if_success (with_reducible refine at_build ?_)); (first | with_reducible (first | refine wpAny_pure ?_ | refine wpAny_bind ?_ | refine wpAny_holding ?_ | refine wpAny_rule ?_ | refine wpAny_standAt ?_ | refine wpAny_of_eq (by assumption) ?_) | ((with_reducible refine wpAny_ite_false ?_ ?_); focus (rfl; done)) | ((with_reducible refine wpAny_ite_true ?_ ?_); focus (rfl; done)) | wp_delta))
  rw [hqn, ← ko.i.shape [], ← ko.lt.shape (mc1 cc), ← ko.gt.shape (mc1 cc), ← ko.eq.shape (mc1 cc), ← ko.le.shape (mc1 cc), ← ko.ge.shape (mc1 cc)]
  refine build_class (clos := mc1 cc) ce.glob ce.code ce.hd ce.kc ce.g ce.ba ?_ ko.hcc ko.hcd ce.sm ce.gP ce.lim ce.sP hdep ko.hk ce.gn ko.l0 ko.l1 ko.l2 ko.l3 ko.l4 ko.l5 ko.l6
    (fun cenv zz1 e2 e3 => ⟨ko.i.ok (cc := cc) e2 e3, ko.lt.ok e2 e3, ko.gt.ok e2 e3, ko.eq.ok e2 e3, ko.le.ok e2 e3, ko.ge.ok e2 e3⟩) ce.v0 ce.op fun cK PK C N dsc f0 f1 f2 f3 f4 f5 h1 t1 km => ?_
  · rw [closureFor_clos fun y hy => ⟨cc, by rw [ko.fr y hy]; exact ce.cell⟩, ko.clos, ce.cell]; rfl
  have lPK : env.locals ≠ PK := fun z => by
    cases hpk : pk with
    | none =>
      have := km.pkn hpk
      obtain ⟨o, _, _, e, _⟩ := id ce.loc
      rw [z, this] at e; cases e
    | some x => have := km.pks x hpk; exact ce.lPK x hpk (by rw [this]; exact z)
  have loc1 : h1.Ns env.locals ml := by
    obtain ⟨o, es, ep, e, r⟩ := id ce.loc
    exact ⟨o, es, ep, km.keep _ _ ce.lP lPK e, r⟩
  refine wpAny_bind (wpAny_pure (wpAny_bind (wpAny_standAt (wpAny_bind (wpAny_bindName (wpAny_storeName_local (s := ⟨h1, g, d, t1, os⟩) ce.kK loc1 (fun h2 n2 s2 => wpAny_pure ?_) (by rw [ce.kind]; rfl)))))))
  refine wpAny_execs_cons (wpAny_Return_some (wpAny_Name (wpAny_loadName_local ce.kind ce.kK n2 (if_pos rfl) ?_) (by decide +kernel)))
  exact hQ cK PK C N dsc f0 f1 f2 f3 f4 f5 h1 h2 _ km s2
end
end Mine


open PySem PySem.W PyProof.Rows PySem.W.X
set_option maxHeartbeats 4000000
set_option pp.deepTerms false
set_option pp.deepTerms.threshold 3

namespace Mine
open PySem PyProof.Rows
/- a new frame for a function -/



noncomputable def cmpNames : List (Str × NameKind) := [((Str.ofString "mycmp"), .cell), (Str.ofString "K", .local), (Str.ofString "object", .globalImplicit)]
/- the def of cmp_to_key, as its text has it -/
structure CmpSt (st : Stmt) (k : KSrc) (ar : Arg) (pr pr' : Pos) : Prop where
  body : fBody st = [k.stmt, .Return (some (.Name "K" pr)) pr']
  args : fArgs st = ⟨[], [ar], Option.none, [], [], Option.none, []⟩
  arg : ar.arg = "mycmp"
  names : (fScope st).names = cmpNames

/- what the top has left and nothing changes -/
structure Wd (h : Heap) (mg mb : Str → Option Value) (c P : Addr) (v0 : Value) : Prop where
  g : h.Ns mainGlobals mg
  b : h.Ns builtinsNs mb
  ba : h.BuiltinsAt mg P
  go : mg "object" = none
  bo : mb "object" = some (.type "object")
  bb : mb "__build_class__" = some (.builtin "__build_class__")
  gn : mg "__name__" = some v0
  v0 : ∃ s0 t0, v0 = .str s0 t0
  sm : ∃ o, h.get? sysModules = some o
  lim : h.NoLimit
  op : ∃ mc, h.Ns cStatics mc ∧ mc "thirdparty.any" = none
  gP : mainGlobals ≠ P
  sP : cStatics ≠ P
  hd : CodeHd h c P
theorem Wd.keep {h h' : Heap} {mg mb : Str → Option Value} {c P : Addr} {v0 : Value} (x : Wd h mg mb c P v0) (k : ∀ b o, h.get? b = some o → h'.get? b = some o) : Wd h' mg mb c P v0 :=
  { x with g := x.g.keeps k, b := x.b.keeps k, ba := bi_self x.ba fun b o zz1 e => k b o e, sm := (let ⟨o, e⟩ := x.sm; ⟨o, k _ _ e⟩), lim := (let ⟨mc, n, e⟩ := x.lim; ⟨mc, n.keeps k, e⟩), op := (let ⟨mc, n, e⟩ := x.op; ⟨mc, n.keeps k, e⟩), hd := x.hd.keeps k }

/- what a call of cmp_to_key leaves -/
structure CmpRes (k : KSrc) (h h' : Heap) (v : Value) (P cK PK C N dsc f0 f1 f2 f3 f4 f5 cc : Addr) (pk : Option (Addr × Addr)) (pm : Value) : Prop where
  keep : ∀ b o, b ≠ P → b ≠ PK → h.get? b = some o → h'.get? b = some o
  grown : Grown h h' P
  code : KCode h' P k.pos "cmp_to_key.<locals>.K" k.qK (some (cK, PK))
  pkn : pk = none → h.get? PK = none
  pks : ∀ x, pk = some x → x = (cK, PK)
  fr : ∀ a ∈ [C, N, dsc, f0, f1, f2, f3, f4, f5, cc], h.get? a = none
  cls : KCls h' C N dsc f0 f1 f2 f3 f4 f5 pm (mdOf k.stI []) (mdOf k.stLt (mc1 cc)) (mdOf k.stGt (mc1 cc)) (mdOf k.stEq (mc1 cc)) (mdOf k.stLe (mc1 cc)) (mdOf k.stGe (mc1 cc))
  cell : h'.IsCell cc (some v)

theorem kf_but {h h' : Heap} {f L : Addr} {name : Str} {x : MD} {pm : Value} {m : Str → Option Value} (y : KF h f name x pm) (sb : Heap.SameBut L h h') (hf : f ≠ L) (hL : h.Ns L m) : KF h' f name x pm := by
  obtain ⟨c', ctv, doc, a, b⟩ := y
  refine ⟨c', ctv, doc, sb.extBut _ _ hf a, codeRec_extBut b sb.extBut fun z => ?_⟩
  obtain ⟨c₂, o, vs, t, e, g, d, _⟩ := b
  cases e
  obtain ⟨o', es, ep, e', d', _⟩ := hL
  rw [z, e'] at g; cases g
  rw [d] at d'; cases d'

theorem cmp_call {B : Base} {A : Around} {n : Nat} {s : Shared} {a : Addr} {fd : FuncData} {st : Stmt} {k : KSrc} {ar : Arg} {pr pr' : Pos} {v v0 : Value} {c P : Addr} {pk : Option (Addr × Addr)} {R : Result → Shared → Prop}
    (rm : Room A (n + 1)) (start : Ext B.T B.h₁ s.heap) (fn : FnIn s.heap a fd) (isd : IsDef fd st) (cs : CmpSt st k ar pr pr') (ko : k.Ok) (hqn : fd.qualname = "cmp_to_key") (hcode : fd.code = .ref c) (wd : Wd s.heap B.mg B.mb c P v0) (kc : KCode s.heap P k.pos "cmp_to_key.<locals>.K" k.qK pk)
    (hR : ∀ cK PK C N dsc f0 f1 f2 f3 f4 f5 cc s', CmpRes k s.heap s'.heap v P cK PK C N dsc f0 f1 f2 f3 f4 f5 cc pk ((B.mg "__name__").getD .none) → s'.gens = s.gens → s'.os = s.os → R (.ok (.ret (.ref C))) s') :
    codeAny (model B.prog B.w) A (.call (.ref a) ⟨[v], []⟩) R s := by
  have hob : GlobIs B "object" (.type "object") := .inr ⟨wd.go, wd.bo⟩
  have hnm : fd.scope.names = cmpNames := by rw [isd.scope]; exact cs.names
  have hbind : bindArgs fd ⟨[v], []⟩ = pure [(Str.ofString "mycmp", v)] := by
    have := bind_plain (fd := fd) (as := [ar]) (vs := [v]) (isd.params.trans cs.args) isd.defaults rfl (List.nodup_cons.mpr ⟨List.not_mem_nil, List.nodup_nil⟩)
    rw [this, List.map_cons, cs.arg]; rfl
  refine call_fn2 (T := []) (W := []) (ds := [(true, .val v)]) (ρ₁ := [(Str.ofString "mycmp", .val true (.val v)), (Str.ofString "K", .un), (Str.ofString "object", .gl (.type "object"))]) rm (fun zz1 h => nomatch h) start fn (isd.body.trans (by rw [cs.body])) hbind (isd.closure ▸ CloOk.nil)
    (by rw [hnm]; exact .cell (.loc (.glob hob .nil))) (.val (.here rfl) .nil) (.val (.val v) .nil) (fun zz1 h => nomatch h) fun env s' F ok z1 z2 z3 z4 => ?_
  have kE := ok.ok.ext.ext.strict
  have kinds : ∀ x, env.kindOf x = List.lookup x cmpNames := fun x => by unfold Env.kindOf; rw [z1, hnm]
  have kM : env.kindOf "mycmp" = some .cell := by rw [kinds]; decide +kernel
  have kK : env.kindOf "K" = some .local := by rw [kinds]; decide +kernel
  have kO : env.kindOf "object" = some .globalImplicit := by rw [kinds]; decide +kernel
  obtain ⟨cc, hcc, hcell, hfr⟩ : ∃ cc, env.cells.lookup ("mycmp" : Str) = some cc ∧ s'.heap.IsCell cc (some v) ∧ s.heap.get? cc = none := by
    rcases ok.ok.ent (Str.ofString "mycmp", .val true (.val v)) (.head _) with ⟨_, e, _⟩ | ⟨⟨ov, h1, h2⟩, h3⟩
    · cases e
    rcases h1 with ⟨e, _⟩ | ⟨_, cc, e1, e2⟩
    · have e : env.kindOf "mycmp" = some .local := e
      rw [kM] at e; cases e
    obtain ⟨v', rfl, r⟩ := h2
    cases r
    refine ⟨cc, e1, e2, ?_⟩
    rcases (h3 rfl).2.2 cc kM e1 with e | e
    · exact e
    · cases e
  obtain ⟨ml, hml⟩ : ∃ ml, s'.heap.Ns env.locals ml := by
    rcases ok.ok.ent (Str.ofString "K", .un) (.tail _ (.head _)) with ⟨_, e, _⟩ | ⟨⟨ov, h1, h2⟩, h3⟩
    · cases e
    rcases h1 with ⟨_, m, e, _⟩ | ⟨e, _⟩
    · exact ⟨m, e⟩
    · have e : env.kindOf "K" = some .cell ∨ env.kindOf "K" = some .free := e
      rw [kK] at e; rcases e with e | e <;> cases e
  have frL : s.heap.get? env.locals = none := by rw [z4]; exact get_size _
  have lP : env.locals ≠ P := fun z => by obtain ⟨ps, e, _⟩ := kc; rw [← z, frL] at e; cases e
  have wd' := wd.keep kE
  have ce : CmpEnv env s'.heap k c P cc pk B.mg B.mb ml v0 :=
    { kind := F.kind, glob := F.globals, bi := F.builtins, code := z2.trans hcode, qual := by rw [z3, hqn]; kernel_rfl, kK := kK, kO := kO, cell := hcc, loc := hml, hd := wd'.hd, kc := kc.keep kE, g := wd'.g, b := wd'.b, ba := wd'.ba, go := wd.go, bo := wd.bo, bb := wd.bb, gn := wd.gn, v0 := wd.v0, sm := wd'.sm, lim := wd'.lim, op := wd'.op, gP := wd.gP, sP := wd.sP, lP := lP,
      lPK := fun x e z => by
        subst e
        obtain ⟨ps, _, _, _, _, _, ⟨ps', e', _⟩, _⟩ := kc
        rw [← z, frL] at e'; cases e' }
  obtain ⟨h0, g0, d0, t0, os0⟩ := s'
  refine cmp_body ko ce (by have := F.dep; show _ < _; exact Nat.lt_of_le_of_lt (Nat.le_add_right _ _) this) fun cK PK C N dsc f0 f1 f2 f3 f4 f5 h1 h2 t2 km sb => ?_
  have nL : ∀ a, h0.get? a = none → a ≠ env.locals := fun a e z => by obtain ⟨o, _, _, e', _⟩ := hml; rw [z] at e; have e' : h0.get? env.locals = some o := e'; rw [e] at e'; cases e'
  have fr' : ∀ a, h0.get? a = none → s.heap.get? a = none := fun a e => by
    cases q : s.heap.get? a with
    | none => rfl
    | some o => have := kE _ _ q; have this : h0.get? a = some o := this; rw [this] at e; cases e
  have lPK : env.locals ≠ PK := fun z => by
    cases hpk : pk with
    | none => exact nL PK (km.pkn hpk) z.symm
    | some x => have e := km.pks x hpk; exact ce.lPK x hpk (by rw [e]; exact z)
  have loc1 : h1.Ns env.locals ml := by
    obtain ⟨o, es, ep, e, r⟩ := id hml
    exact ⟨o, es, ep, km.keep _ _ lP lPK e, r⟩
  have nPL := fun z : P = env.locals => lP z.symm
  have keep2 : ∀ b o, b ≠ P → b ≠ PK → s.heap.get? b = some o → h2.get? b = some o := fun b o e1 e2 e => sb.extBut _ _ (fun z => by rw [z, frL] at e; cases e) (km.keep _ _ e1 e2 (kE _ _ e))
  have mem := km.fr
  have cls := km.k
  refine hR cK PK C N dsc f0 f1 f2 f3 f4 f5 cc ⟨h2, g0, d0, t2, os0⟩ ⟨keep2, ?_, ?_, fun z => fr' _ (km.pkn z), km.pks, ?_, ?_, ?_⟩ ok.ok.ext.gens ok.ok.ext.os
  · obtain ⟨ps, more, e1, e2⟩ := km.grown
    obtain ⟨ps', e', _⟩ := id kc
    have q : h0.get? P = some (tabObj ps') := kE _ _ e'
    rw [e1] at q; cases q
    exact ⟨ps, more, e', sb.extBut _ _ nPL e2⟩
  · obtain ⟨ps, e1, e2, e3, e4, e5, e6, e7, e8, e9⟩ := km.code
    obtain ⟨oL, esL, epL, eL, dL, _⟩ := id loc1
    have cL : cK ≠ env.locals := fun z => by
      obtain ⟨c₂, o, vs, t, e, g, d, _⟩ := e4
      cases e
      rw [z, eL] at g; cases g
      rw [d] at dL; cases dL
    exact ⟨ps, sb.extBut _ _ nPL e1, e2, e3, codeRec_extBut e4 sb.extBut cL, codeHd_but e5 sb.extBut cL, tabQ_but e6 sb.extBut lPK.symm eL dL, e7, e8, e9⟩
  · intro a ha
    by_cases z : a = cc
    · rw [z]; exact hfr
    · refine fr' a (mem a ?_)
      simp only [List.mem_cons, List.not_mem_nil, or_false] at ha ⊢
      rcases ha with h | h | h | h | h | h | h | h | h | h <;> first | exact absurd h z | simp [h]
  · have nn : ∀ a ∈ [C, N, dsc, f0, f1, f2, f3, f4, f5], a ≠ env.locals := fun a ha => nL a (mem a ha)
    obtain ⟨⟨k0, k2, k3, e1⟩, ⟨v0, qual, sm, tq, tf, tm, fl, sl, st', e2⟩, ⟨tk, e3⟩, i, lt, gt, eq, le, ge⟩ := cls
    exact ⟨⟨k0, k2, k3, sb.extBut _ _ (nn C (by simp)) e1⟩, ⟨v0, qual, sm, tq, tf, tm, fl, sl, st', e2.extBut sb.extBut (nn N (by simp))⟩, ⟨tk, sb.extBut _ _ (nn dsc (by simp)) e3⟩,
      kf_but i sb (nn f0 (by simp)) loc1, kf_but lt sb (nn f1 (by simp)) loc1, kf_but gt sb (nn f2 (by simp)) loc1, kf_but eq sb (nn f3 (by simp)) loc1, kf_but le sb (nn f4 (by simp)) loc1, kf_but ge sb (nn f5 (by simp)) loc1⟩
  · obtain ⟨o, e, dd⟩ := hcell
    have cL : cc ≠ env.locals := fun z => by
      obtain ⟨oL, esL, epL, eL, dL, _⟩ := id hml
      rw [z, eL] at e; cases e
      rw [dL] at dd; cases dd
    have cP : cc ≠ P := fun z => by obtain ⟨ps, e', _⟩ := kc; rw [← z, hfr] at e'; cases e'
    have cPK : cc ≠ PK := fun z => by
      cases hpk : pk with
      | none => have := km.pkn hpk; have e : h0.get? cc = some o := e; rw [z, this] at e; cases e
      | some x =>
        have e' := km.pks x hpk
        subst hpk
        subst e'
        obtain ⟨ps, _, _, _, _, _, ⟨ps', e'', _⟩, _⟩ := kc
        rw [← z, hfr] at e''; cases e''
    exact ⟨o, sb.extBut _ _ cL (km.keep _ _ cP cPK e), dd⟩
end Mine


open PySem PySem.W PyProof.Rows PySem.W.X
set_option maxHeartbeats 4000000
set_option pp.deepTerms false
set_option pp.deepTerms.threshold 3

namespace Mine
open PySem PySem.Calls PyProof.Rows
/- no code table -/
noncomputable def NoTab (o : Obj) : Prop := ∀ ps, TriplesOk ps.toList → o ≠ tabObj ps
/- all but code tables kept -/
noncomputable def TKeep (h h' : Heap) : Prop := ∀ b o, h.get? b = some o → NoTab o → h'.get? b = some o
theorem TKeep.trans {h h' h'' : Heap} (x : TKeep h h') (y : TKeep h' h'') : TKeep h h'' := fun b o e n => y b o (x b o e n) n
theorem TKeep.of {h h' : Heap} (k : ∀ b o, h.get? b = some o → h'.get? b = some o) : TKeep h h' := fun b o e zz1 => k b o e
theorem NoTab.data {o : Obj} (hd : ∀ vs, o.data ≠ .fields vs) : NoTab o := fun ps zz1 z => hd ps (by rw [z])
theorem NoTab.cls {o : Obj} (hc : o.cls ≠ .none) : NoTab o := fun ps zz1 z => hc (by rw [z])
theorem NoTab.str {o : Obj} {vs : Array Value} {q : Str} {t : Tok} (hd : o.data = .fields vs) (h1 : vs[1]? = some (.str q t)) : NoTab o := fun ps ht z => by
  subst z
  cases hd
  rw [← Array.getElem?_toList] at h1
  revert h1 ht
  cases vs.toList with
  | nil => intro h _; cases h
  | cons a l =>
    cases l with
    | nil => intro h _; cases h
    | cons b l =>
      intro h ht
      have h : some b = some (.str q t) := h
      cases h
      cases a <;> exact ht.elim
theorem TKeep.codeRec {h h' : Heap} (k : TKeep h h') {cd : Value} {q : Str} (x : h.CodeRec cd q) : h'.CodeRec cd q :=
  let ⟨c, o, vs, t, e, g, d, r⟩ := x; ⟨c, o, vs, t, e, k _ _ g (.str d r), d, r⟩
theorem TKeep.ns {h h' : Heap} (k : TKeep h h') {a : Addr} {m : Str → Option Value} (x : h.Ns a m) : h'.Ns a m :=
  let ⟨o, es, ep, e, d, r⟩ := x; ⟨o, es, ep, k _ _ e (.data fun vs z => by rw [d] at z; cases z), d, r⟩
theorem TKeep.cell {h h' : Heap} (k : TKeep h h') {a : Addr} {v : Option Value} (x : h.IsCell a v) : h'.IsCell a v :=
  let ⟨o, e, d⟩ := x; ⟨o, k _ _ e (.data fun vs z => by rw [d] at z; cases z), d⟩
theorem TKeep.rep {h h' : Heap} (k : TKeep h h') {v : Value} {d : D} (x : Rep [] h v d) : Rep [] h' v d :=
  x.move fun a o zz1 e q => ⟨k _ _ e (.data fun vs z => by rcases q with ⟨xs, n, q⟩ | q <;> rw [z] at q <;> cases q), List.not_mem_nil⟩
theorem TKeep.lim {h h' : Heap} (k : TKeep h h') (x : h.NoLimit) : h'.NoLimit := let ⟨mc, n, e⟩ := x; ⟨mc, k.ns n, e⟩
theorem TKeep.codeHd {h h' : Heap} (k : TKeep h h') {c P : Addr} (x : CodeHd h c P) : CodeHd h' c P :=
  x.imp fun zz1 h => h.imp fun zz1 h => h.imp fun zz1 h => h.imp fun zz1 h => h.imp fun zz1 h => h.imp fun zz1 h => h.imp fun zz1 h => h.imp fun zz1 h => h.imp fun zz1 h => ⟨k _ _ h.1 (.cls (by rw [h.2.1]; intro z; cases z)), h.2⟩
theorem TKeep.fnIn {h h' : Heap} (k : TKeep h h') {a : Addr} {fd : FuncData} (x : FnIn h a fd) : FnIn h' a fd :=
  { x with obj := (let ⟨o, e, d⟩ := x.obj; ⟨o, k _ _ e (.data fun vs z => by rw [d] at z; cases z), d⟩), code := k.codeRec x.code }
theorem TKeep.bi {h h' : Heap} (k : TKeep h h') {mg : Str → Option Value} {P : Addr} (x : h.BuiltinsAt mg P) : h'.BuiltinsAt mg P :=
  x.imp fun zz1 h => h.imp fun zz1 h => h.imp_right fun h => h.imp_right fun h => h.imp_right fun h => h.imp_right fun h => ⟨k _ _ h.1 (.cls (by rw [h.2.1]; intro z; cases z)), h.2⟩
theorem CmpRes.tk {k : KSrc} {h h' : Heap} {v : Value} {P cK PK C N dsc f0 f1 f2 f3 f4 f5 cc : Addr} {pk : Option (Addr × Addr)} {pm : Value} {qual : Str} {qK : Nat → Nat → Str} {pos : Pos} (x : CmpRes k h h' v P cK PK C N dsc f0 f1 f2 f3 f4 f5 cc pk pm)
    (kc : KCode h P pos qual qK pk) : TKeep h h' := fun b o e n => by
  obtain ⟨ps, eP, tP, r⟩ := kc
  refine x.keep b o (fun z => ?_) (fun z => ?_) e
  · rw [z, eP] at e; cases e; exact n ps tP rfl
  · cases hp : pk with
    | none => have := x.pkn hp; rw [z, this] at e; cases e
    | some y =>
      have q := x.pks y hp
      subst hp
      subst q
      obtain ⟨_, _, _, ⟨ps', e', t', _⟩, _⟩ := r
      rw [z, e'] at e; cases e
      exact n ps' t' rfl

/- a lambda, as it was made -/
noncomputable def LamAt (h : Heap) (f : Addr) (qual : Str) (params : Arguments) (body : Expr) (scope : Scope) (clos : List (Str × Addr)) : Prop :=
  ∃ pm c' ctv, h.get? f = some (kla_obj "<lambda>" qual params body scope clos pm c' ctv) ∧ h.CodeRec (.ref c') qual
theorem TKeep.lam {h h' : Heap} (k : TKeep h h') {f : Addr} {qual : Str} {params : Arguments} {body : Expr} {scope : Scope} {clos : List (Str × Addr)} (x : LamAt h f qual params body scope clos) : LamAt h' f qual params body scope clos :=
  let ⟨pm, c', ctv, a, b⟩ := x; ⟨pm, c', ctv, k _ _ a (.cls (by intro z; cases z)), k.codeRec b⟩
/- a code table and the places that it may know -/
noncomputable def LTab (h : Heap) (P : Addr) (used : List (Nat × Nat)) : Prop := ∃ ps, h.get? P = some (tabObj ps) ∧ TriplesOk ps.toList ∧ ∀ pos : Pos, (pos.line, pos.col) ∉ used → codeAmong pos ps.toList = none

section
variable {M : Model} {A : Around} {E : Value → Shared → Prop} {h : Heap} {g : Array GenState} {d : Drawn} {t : Nat} {os : OsState}
theorem lam_eval {env : Env} {params : Arguments} {body : Expr} {scope : Scope} {pos : Pos} {c P : Addr} {used : List (Nat × Nat)} {mg : Str → Option Value} {clos : List (Str × Addr)} {Q : Value → Shared → Prop}
    (hdef : defaultsOf params env = ([], [])) (hcl : closureFor scope env = pure clos) (hge : env.globals = mainGlobals) (hg : h.Ns mainGlobals mg) (hcode : env.code = .ref c) (C : CodeHd h c P) (T : LTab h P used) (hu : (pos.line, pos.col) ∉ used) (hgP : mainGlobals ≠ P) (hb : h.BuiltinsAt mg P)
    (hq : ∀ f h' t', TKeep h h' → Heap.ExtBut P h h' → Grown h h' P → h.get? f = none → LamAt h' f (env.qual ++ "<lambda>") params body scope clos → LTab h' P ((pos.line, pos.col) :: used) → Q (.ref f) ⟨h', g, d, t', os⟩) :
    wpAny M A (eval (.Lambda params body scope pos) env) Q E ⟨h, g, d, t, os⟩ := by
  obtain ⟨ps, hP, ht, hnf⟩ := T
  refine kla_eval hdef (kla_makeFunction (s := ⟨h, g, d, t, os⟩) hcl hge hg hcode C hP ht (hnf _ hu) hgP hb fun c' ctv h1 tk x1 hge1 hlt hrec htb => ?_)
  have up : ∀ (o' : Obj) b o, h1.get? b = some o → (h1.push o').get? b = some o := fun o' b o e => Heap.get?_push_of_some _ e
  refine hq _ _ tk (fun b o e n => up _ _ _ (x1 _ _ (fun z => by rw [z, hP] at e; cases e; exact n ps ht rfl) e)) (fun b o hb e => up _ _ _ (x1 _ _ hb e)) ⟨ps, _, hP, up _ _ _ htb⟩ ?_ ⟨_, c', ctv, Heap.get?_push_size _ rfl, hrec.push _⟩ ⟨_, up _ _ _ htb, ?_, fun pos' hn => ?_⟩
  · cases q : h.get? h1.objs.size with
    | none => rfl
    | some o => exact absurd (Nat.lt_of_lt_of_le (Heap.lt_size q) (Nat.le_of_lt (Nat.lt_of_le_of_lt hge1 hlt))) (Nat.lt_irrefl _)
  · have hl : (ps ++ #[rawInt pos.line, rawInt pos.col, Value.ref c']).toList = ps.toList ++ [rawInt pos.line, rawInt pos.col, .ref c'] := by simp
    rw [hl]; exact TriplesOk_snoc _ _ _ _ ht
  · have hl : (ps ++ #[rawInt pos.line, rawInt pos.col, Value.ref c']).toList = ps.toList ++ [rawInt pos.line, rawInt pos.col, .ref c'] := by simp
    rw [List.mem_cons, not_or] at hn
    rw [hl, codeAmong_more _ _ _ ht, hnf pos' hn.2]
    dsimp only
    rw [if_neg]
    intro z
    simp only [Bool.and_eq_true, beq_iff_eq] at z
    exact hn.1 (by rw [z.1, z.2])
end
end Mine


open PySem PySem.W PyProof.Rows PySem.W.X
set_option maxHeartbeats 4000000
set_option pp.deepTerms false
set_option pp.deepTerms.threshold 3

namespace Mine
open PySem PySem.Calls PyProof.Rows Builtin Builtin.ObjectAttr Builtin.Getset_descriptor
section
variable {prog : Program} {w : World} {M : Model} {A : Around} {E : Value → Shared → Prop} {h : Heap} {s : Shared} {C N dsc f0 f1 f2 f3 f4 f5 x : Addr} {pm v : Value} {x0 x1 x2 x3 x4 x5 : MD} {name : Str} {r y : Option Value}
noncomputable def orY : Option Value → Option Value → Option Value
  | some v, _ => some v
  | none, y => y
theorem kl (k : KCls h C N dsc f0 f1 f2 f3 f4 f5 pm x0 x1 x2 x3 x4 x5) (hB : classOwn (.type "object") name = pure y)
    (e : ∀ v0 qual sm tq tf tm fl sl st, km7 (kMap v0 qual sm tq tf tm fl sl f0 f1 f2 f3 f4 f5 st) dsc name = r) : Looks M h (typeLookup (.ref C) name) (orY r y) := by
  intro A Q E s kk q
  obtain ⟨k0, k2, k3, hC⟩ := k.cls
  obtain ⟨v0, qual, sm, tq, tf, tm, fl, sl, st, hN⟩ := k.ns
  obtain ⟨hh, g, d, t, os⟩ := s
  refine own_lookup (kk _ _ hC) rfl rfl (hN.keeps kk) hB ?_
  rw [e]
  cases r <;> exact q
theorem kl_ga (k : KCls h C N dsc f0 f1 f2 f3 f4 f5 pm x0 x1 x2 x3 x4 x5) : Looks M h (typeLookup (.ref C) "__getattribute__") (some (.builtin "object.__getattribute__")) := kl (r := none) (y := some (.builtin "object.__getattribute__")) k (by kernel_rfl) (by intros; kernel_rfl)
theorem kl_gt (k : KCls h C N dsc f0 f1 f2 f3 f4 f5 pm x0 x1 x2 x3 x4 x5) : Looks M h (typeLookup (.ref C) "__getattr__") none := kl (r := none) (y := none) k (by kernel_rfl) (by intros; kernel_rfl)
theorem kl_sa (k : KCls h C N dsc f0 f1 f2 f3 f4 f5 pm x0 x1 x2 x3 x4 x5) : Looks M h (typeLookup (.ref C) "__setattr__") (some (.builtin "object.__setattr__")) := kl (r := none) (y := some (.builtin "object.__setattr__")) k (by kernel_rfl) (by intros; kernel_rfl)
theorem kl_obj (k : KCls h C N dsc f0 f1 f2 f3 f4 f5 pm x0 x1 x2 x3 x4 x5) : Looks M h (typeLookup (.ref C) "obj") (some (.ref dsc)) := kl (r := some (.ref dsc)) (y := none) k (by kernel_rfl) (by intros; kernel_rfl)
theorem kl_init (k : KCls h C N dsc f0 f1 f2 f3 f4 f5 pm x0 x1 x2 x3 x4 x5) : Looks M h (typeLookup (.ref C) "__init__") (some (.ref f0)) := kl (r := some (.ref f0)) (y := some (.builtin "object.__init__")) k (by kernel_rfl) (by intros; kernel_rfl)
theorem kl_type (kx : KeyAt h x C v) : Looks M h (typeOf (.ref x)) (.ref C) := by
  obtain ⟨o, e, c, _⟩ := kx
  exact c ▸ (Looks.ld e).andThen .now
theorem kl_dtype (k : KCls h C N dsc f0 f1 f2 f3 f4 f5 pm x0 x1 x2 x3 x4 x5) : Looks M h (typeOf (.ref dsc)) (.type "member_descriptor") := by
  obtain ⟨tk, e⟩ := k.dsc
  exact (Looks.ld e).andThen .now
theorem md_get : typeLookup (.type "member_descriptor") "__get__" = pure (some (.builtin "member_descriptor.__get__")) := by kernel_rfl
theorem md_set : typeLookup (.type "member_descriptor") "__set__" = pure (some (.builtin "member_descriptor.__set__")) := by kernel_rfl
theorem kl_cls (k : KCls h C N dsc f0 f1 f2 f3 f4 f5 pm x0 x1 x2 x3 x4 x5) : ∃ cd, Looks M h (classData C) cd ∧ cd.slotNames = [Str.ofString "obj"] ∧ cd.mro = [.ref C, .type "object"] := by
  obtain ⟨k0, k2, k3, hC⟩ := k.cls
  exact ⟨_, (Looks.ld (part := none) hC).andThen .now, rfl, rfl⟩
theorem kl_sub (k : KCls h C N dsc f0 f1 f2 f3 f4 f5 pm x0 x1 x2 x3 x4 x5) {b : Value} : Looks M h (isSubtype (.ref C) b) ([Value.ref C, .type "object"].contains b) := by
  obtain ⟨cd, L, _, e⟩ := kl_cls (M := M) k
  intro A Q E s kk q
  unfold isSubtype mroOf
  refine wpAny_bind (wpAny_bind (L A _ E s kk (wpAny_pure ?_)))
  rw [e]
  exact wpAny_pure q
theorem kl_dspec (k : KCls h C N dsc f0 f1 f2 f3 f4 f5 pm x0 x1 x2 x3 x4 x5) {name : Str} {y : Option Value} (hy : typeLookup (.type "member_descriptor") name = pure y) : Looks M h (specialOf (.ref dsc) name) y := (kl_dtype k).andThen (Looks.of_pure hy)
theorem kl_takes (k : KCls h C N dsc f0 f1 f2 f3 f4 f5 pm x0 x1 x2 x3 x4 x5) : Looks M h (takesStores (.ref dsc)) true := (kl_dspec k md_set).andThen .now
theorem kl_find (k : KCls h C N dsc f0 f1 f2 f3 f4 f5 pm x0 x1 x2 x3 x4 x5) : Looks M h (find (.ref x) (.ref C) "obj") (.bind (.builtin "member_descriptor.__get__") (.ref dsc)) :=
  (kl_obj k).andThen ((show Looks M h (getOf (some (.ref dsc))) (some (.builtin "member_descriptor.__get__")) from kl_dspec k md_get).andThen
    ((show Looks M h (dataDescriptor? (some (.ref dsc)) (some (.builtin "member_descriptor.__get__"))) (some (.builtin "member_descriptor.__get__", .ref dsc)) from (kl_takes k).andThen .now).andThen (Looks.tag .now)))

theorem slot_read {R : Result → Shared → Prop} {tp : Value} (k : KCls s.heap C N dsc f0 f1 f2 f3 f4 f5 pm x0 x1 x2 x3 x4 x5) (kx : KeyAt s.heap x C v) (hR : R (.ok (.ret v)) s) :
    codeAny (model prog w) A (.call (.builtin "member_descriptor.__get__") ⟨[.ref dsc, .ref x, tp], []⟩) R s := by
  obtain ⟨tk, ho⟩ := k.dsc
  obtain ⟨cd, Lc, esl, emro⟩ := kl_cls (M := model prog w) k
  obtain ⟨hh, g, dr, t, os⟩ := s
  have L0 := kl_type (M := model prog w) kx
  have L1 : Looks (model prog w) hh (isSubtype (.ref C) (.ref C)) true := by have := kl_sub (M := model prog w) k (b := .ref C); simpa using this
  have L2 : Looks (model prog w) hh (Slots.slotNamesOf (.ref C)) [Str.ofString "obj"] := by rw [← esl]; exact Lc.andThen .now
  obtain ⟨o, hx, hc, hpl, hsl⟩ := kx
  have f0 := looks_field (M := model prog w) ho 0 (v := .str "obj" tk) rfl
  have f1 := looks_field (M := model prog w) ho 1 (v := .ref C) rfl
  have f2 := looks_field (M := model prog w) ho 2 (v := .builtin "proto.slot") rfl
  have f4 := looks_field (M := model prog w) ho 4 (v := rawInt 0) rfl
  refine codeAny_call_builtin KF.slot_mem.plain KF.entry_mem (KF.slot_mem.check _ _ _ _ _ _ _ _ ⟨_, ho, rfl⟩ (KF.args_mem _ _ _) ?_)
  unfold Builtin.«member_descriptor.__get__» descrGet
  rw [dga_obj]
  refine wpAny_bind (wpAny_pure ?_)
  unfold descrGetter descrCheckInstance descrNameAndClass isInstance
  repeat lk
  refine ⟨Code.quiet_builtin _ (by decide +kernel), codeAny_builtin KF.entry_slot ?_⟩
  unfold Builtin.«proto.slot» Slots.target
  repeat lk
  rw [hsl]
  exact wpAny_pure hR

theorem get_obj {expr : Bool} {Q : Value → Shared → Prop} (k : KCls s.heap C N dsc f0 f1 f2 f3 f4 f5 pm x0 x1 x2 x3 x4 x5) (kx : KeyAt s.heap x C v) (hh : handedIn v = true) (hq : Q v { s with toks := s.toks + 1 }) :
    wpAny (model prog w) A (getAttr (.ref x) "obj" expr) Q E s := by
  obtain ⟨hh', gg, d, t, os⟩ := s
  have L0 := kl_type (M := model prog w) kx
  have L1 := kl_ga (M := model prog w) k
  have L2 := kl_gt (M := model prog w) k
  have L3 := kl_find (M := model prog w) (x := x) k
  unfold getAttr getAttrBy
  refine wpAny_bind (wpAny_mkText (wpAny_holding (wpAny_bind (L0.at (wpAny_bind (L1.at ?_))))))
  show wpAny _ _ (getAttrEveryday _ _ _) _ _ _
  refine wpAny_bind (wpAny_onRaise (wpAny_runValue (codeAny_builtin F.plainObj_entry_getattr_hooked ?_)))
  refine wpAny_bind (wpAny_pure (wpAny_bind (L0.at (wpAny_bind (L3.at (wpAny_bind (L2.at ?_)))))))
  show wpAny _ _ (holding [.ref dsc] (call (.builtin "member_descriptor.__get__") [.ref dsc, .ref x, .ref C]) >>= ret) _ _ _
  refine wpAny_bind (wpAny_holding (wpAny_call (slot_read (s := ⟨hh', gg, d, t + 1, os⟩) k kx (wpAny_pure ?_))))
  exact handed_on hh hq
end
end Mine


open PySem PySem.W PyProof.Rows PySem.W.X
set_option maxHeartbeats 4000000
set_option pp.deepTerms false
set_option pp.deepTerms.threshold 3

namespace Mine
open PySem PySem.Calls PyProof.Rows Builtin Builtin.ObjectAttr Builtin.Getset_descriptor
section
variable {prog : Program} {w : World} {A : Around} {E : Value → Shared → Prop} {h : Heap} {s : Shared} {C N dsc f0 f1 f2 f3 f4 f5 x : Addr} {pm v : Value} {x0 x1 x2 x3 x4 x5 : MD}
theorem kl_makes {M : Model} (k : KCls h C N dsc f0 f1 f2 f3 f4 f5 pm x0 x1 x2 x3 x4 x5) : Makes M h C := by
  obtain ⟨k0, k2, k3, hC⟩ := k.cls
  have hC' : h.get? C = some (excClassObj "K" "cmp_to_key.<locals>.K" C N [.type "object"] [.type "object"] false ["obj"] [] false none none k0 none k2 k3 (some (.bool false)) "object.__new__") := hC
  refine ⟨⟨_, _, _, _, hC, rfl, rfl, rfl⟩, ?_, ?_, ?_, ?_, ?_, ?_⟩
  · intro A Q E s kk q; obtain ⟨hh, g, d, t, os⟩ := s; exact wpAny_madeBy_exc (kk _ _ hC') q
  · intro A Q E s kk q; obtain ⟨hh, g, d, t, os⟩ := s; exact wpAny_staticBase_exc (kk _ _ hC') q
  · have := kl_sub (M := M) k (b := .ref C); simpa using this
  · have := kl_sub (M := M) k (b := .type "object"); simpa using this
  · exact ((Looks.ld hC).andThen .now : Looks M h (typeOf (.ref C)) (.type "type")).andThen (Looks.of_pure (by kernel_rfl))
  · exact ((Looks.ld hC).andThen .now : Looks M h (typeOf (.ref C)) (.type "type")).andThen (Looks.of_pure (by kernel_rfl))

theorem slot_write {ox : Obj} {R : Result → Shared → Prop} (k : KCls s.heap C N dsc f0 f1 f2 f3 f4 f5 pm x0 x1 x2 x3 x4 x5) (hx : s.heap.get? x = some ox) (hc : ox.cls = .ref C) (hsl : ox.slots = #[]) (hfr : ∀ sl, ({ ox with slots := sl } : Obj).isFreed = false)
    (hR : ∀ h', Heap.SameBut x s.heap h' → h'.get? x = some { ox with slots := #[some v] } → R (.ok (.ret .none)) { s with heap := h' }) :
    codeAny (model prog w) A (.call (.builtin "member_descriptor.__set__") ⟨[.ref dsc, .ref x, v], []⟩) R s := by
  obtain ⟨tk, ho⟩ := k.dsc
  obtain ⟨cd, Lc, esl, emro⟩ := kl_cls (M := model prog w) k
  obtain ⟨hh, g, dr, t, os⟩ := s
  have L0 : Looks (model prog w) hh (typeOf (.ref x)) (.ref C) := hc ▸ (Looks.ld hx).andThen .now
  have L1 : Looks (model prog w) hh (isSubtype (.ref C) (.ref C)) true := by have := kl_sub (M := model prog w) k (b := .ref C); simpa using this
  have L2 : Looks (model prog w) hh (Slots.slotNamesOf (.ref C)) [Str.ofString "obj"] := by rw [← esl]; exact Lc.andThen .now
  have f0 := looks_field (M := model prog w) ho 0 (v := .str "obj" tk) rfl
  have f1 := looks_field (M := model prog w) ho 1 (v := .ref C) rfl
  have f3 := looks_field (M := model prog w) ho 3 (v := .builtin "proto.slot#set") rfl
  have f4 := looks_field (M := model prog w) ho 4 (v := rawInt 0) rfl
  refine codeAny_call_builtin KF.slot_mset.plain KF.entry_mset (KF.slot_mset.check _ _ _ _ _ _ _ _ ⟨_, ho, rfl⟩ (KF.args_mset _ _ _) ?_)
  unfold Builtin.«member_descriptor.__set__» descrSet descrStoreThrough descrCheckInstance descrNameAndClass isInstance
  have f5 : Looks (model prog w) hh (descrItself (.ref dsc)) [.ref dsc] := ((Looks.ld (part := none) ho).andThen .now).andThen (Looks.of_pure (by kernel_rfl))
  repeat lk
  refine ⟨Code.quiet_builtin _ (by decide +kernel), codeAny_builtin KF.entry_slotset ?_⟩
  unfold Builtin.«proto.slot#set» Slots.target
  repeat lk
  obtain ⟨oc, od, odt, osl⟩ := ox
  dsimp only at hsl
  subst hsl
  refine wpAny_updatePart hx (wpAny_pure (hR _ (Heap.SameBut.update ..) ?_))
  refine (Heap.get?_update_self _ hx ?_).trans ?_
  · exact hfr _
  · rfl

theorem set_obj {ox : Obj} {Q : Unit → Shared → Prop} (k : KCls s.heap C N dsc f0 f1 f2 f3 f4 f5 pm x0 x1 x2 x3 x4 x5) (hx : s.heap.get? x = some ox) (hc : ox.cls = .ref C) (hsl : ox.slots = #[]) (hfr : ∀ sl, ({ ox with slots := sl } : Obj).isFreed = false)
    (hq : ∀ h', Heap.SameBut x s.heap h' → h'.get? x = some { ox with slots := #[some v] } → Q () { s with heap := h', toks := s.toks + 1 }) : wpAny (model prog w) A (setAttr (.ref x) "obj" v) Q E s := by
  have L0 : Looks (model prog w) s.heap (typeOf (.ref x)) (.ref C) := hc ▸ (Looks.ld hx).andThen .now
  have L1 := kl_sa (M := model prog w) k
  obtain ⟨cd, Lc, esl, emro⟩ := kl_cls (M := model prog w) k
  have SF := PySem.F.store_object
  have hm : Looks (model prog w) s.heap (mroOf (.ref C)) [.ref C, .type "object"] := by rw [← emro]; exact Lc.andThen .now
  have sub : Looks (model prog w) s.heap (isInstance (.ref x) (.type "object")) true := L0.andThen (by have := kl_sub (M := model prog w) k (b := .type "object"); simpa using this)
  refine wpAny_bind (wpAny_mkText (wpAny_bind (wpAny_bind (wpAny_bind (L0 _ _ _ _ (fun zz1 zz2 e => e) (L1 _ _ _ _ (fun zz1 zz2 e => e) (wpAny_holding ?_)))))))
  rw [PySem.F.store_object.slot.bind]
  refine wpAny_bind (wpAny_pure (wpAny_bind (wpAny_call ?_)))
  refine codeAny_call_builtin SF.slot.plain SF.entry (@check_slot (model prog w) _ _ { s with toks := s.toks + 1 } "object.__setattr__" "object" "__setattr__" (.ref x) [.str "obj" s.toks, v] [] _ SF.kind SF.split sub (SF.args (.ref x) (.str "obj" s.toks) v) ?_)
  show wpAny _ _ (Builtin.«object.__setattr__» ⟨[.ref x, .str "obj" s.toks, v], []⟩) _ _ _
  rw [osa_eq, refuse_eq]
  refine wpAny_bind (wpAny_bind (L0 _ _ _ _ (fun zz1 zz2 e => e) (wpAny_bind (hm _ _ _ _ (fun zz1 zz2 e => e) ?_))))
  rw [refuse_only _ (by rfl)]
  have LT : Looks (model prog w) s.heap (storeTaker? (some (.ref dsc))) (some (.ref dsc)) := (kl_takes k).andThen .now
  refine wpAny_pure (wpAny_bind (L0 _ _ _ _ (fun zz1 zz2 e => e) (wpAny_bind (kl_obj k _ _ _ _ (fun zz1 zz2 e => e) (wpAny_bind (LT _ _ _ _ (fun zz1 zz2 e => e) ?_))))))
  refine wpAny_bind (wpAny_rule (wpAny_bind (wpAny_holding (wpAny_bind (wpAny_bind (kl_dtype k _ _ _ _ (fun zz1 zz2 e => e) ((Looks.of_pure (h := s.heap) KF.slot_mset.lookup) _ _ _ _ (fun zz1 zz2 e => e) (wpAny_holding ?_))))))))
  rw [KF.slot_mset.bind]
  refine wpAny_bind (wpAny_pure (wpAny_bind (wpAny_call (slot_write (s := { s with toks := s.toks + 1 }) k hx hc hsl hfr fun h' sb e => ?_))))
  exact wpAny_pure (wpAny_pure (wpAny_pure (wpAny_pure (hq h' sb e))))
end
end Mine


open PySem PySem.W PyProof.Rows PySem.W.X
set_option maxHeartbeats 4000000
set_option pp.deepTerms false
set_option pp.deepTerms.threshold 3

namespace Mine
open PySem PySem.Calls PyProof.Rows Builtin Builtin.ObjectAttr Builtin.Getset_descriptor
/- a method's text -/
structure MethOk (st : Stmt) (as : List Arg) : Prop where
  args : fArgs st = ⟨[], as, Option.none, [], [], Option.none, []⟩
  nda : (as.map (·.arg)).Nodup
  kind : (fScope st).kind = .function
  co : (fScope st).isCoroutine = false
  gen : (fScope st).isGenerator = false
  nd : ((fScope st).names.map (·.1)).Nodup
noncomputable abbrev methFd (name : Str) (st : Stmt) (clos : List (Str × Addr)) (doc pm : Value) (c' : Addr) (ctv : Value) : FuncData :=
  fnX name (kq name) (fArgs st) (fBody st) (fScope st) clos .none .none doc pm none (.ref c') ctv
theorem KF.fn {h : Heap} {f : Addr} {name : Str} {st : Stmt} {clos : List (Str × Addr)} {pm : Value} {as : List Arg} (x : KF h f name (mdOf st clos) pm) (m : MethOk st as) : ∃ doc c' ctv, FnIn h f (methFd name st clos doc pm c' ctv) := by
  obtain ⟨c', ctv, doc, e, r⟩ := x
  exact ⟨doc, c', ctv, ⟨⟨_, e, rfl⟩, r, rfl, rfl, m.kind, m.co, m.gen, m.nd⟩⟩
structure InitSt (st : Stmt) (a1 a2 : Arg) (p1 p2 p3 p4 : Pos) : Prop where
  m : MethOk st [a1, a2]
  n1 : a1.arg = "self"
  n2 : a2.arg = "obj"
  body : fBody st = [.Assign [.Attribute (.Name "self" p1) "obj" p2] (.Name "obj" p3) p4]
  names : (fScope st).names = [(Str.ofString "self", .local), (Str.ofString "obj", .local)]
theorem KCls.keep {h h' : Heap} {C N dsc f0 f1 f2 f3 f4 f5 : Addr} {pm : Value} {x0 x1 x2 x3 x4 x5 : MD} (k : KCls h C N dsc f0 f1 f2 f3 f4 f5 pm x0 x1 x2 x3 x4 x5) (kk : ∀ b o, h.get? b = some o → h'.get? b = some o) : KCls h' C N dsc f0 f1 f2 f3 f4 f5 pm x0 x1 x2 x3 x4 x5 :=
  ⟨k.cls.imp fun zz1 h => h.imp fun zz1 h => h.imp fun zz1 e => kk _ _ e, k.ns.imp fun zz1 h => h.imp fun zz1 h => h.imp fun zz1 h => h.imp fun zz1 h => h.imp fun zz1 h => h.imp fun zz1 h => h.imp fun zz1 h => h.imp fun zz1 h => h.imp fun zz1 n => n.keeps kk, k.dsc.imp fun zz1 e => kk _ _ e, k.i.keep kk, k.lt.keep kk, k.gt.keep kk, k.eq.keep kk, k.le.keep kk, k.ge.keep kk⟩
theorem room_tc {A : Around} {n : Nat} {C : Addr} {vs : List Value} (rm : Room A (n + 1)) : Room (A.under (.builtin "type.__call__" ⟨.ref C :: vs, []⟩)) n := by
  refine ⟨rm.hnd, ?_, ?_⟩
  · have := rm.dep
    show A.depth + 1 + n < _
    (first | lia | omega)
  · have := rm.uni
    have e : (A.under (.builtin "type.__call__" ⟨.ref C :: vs, []⟩)).units ≤ A.units + 8 := by
      show A.units + (Code.builtin "type.__call__" ⟨.ref C :: vs, []⟩).cUnits ≤ A.units + 8
      exact Nat.add_le_add_left (by first | decide | exact (by decide : (1 : Nat) ≤ 8)) _
    (first | lia | omega)

theorem make_key {B : Base} {A : Around} {n : Nat} {s : Shared} {C N dsc f0 f1 f2 f3 f4 f5 : Addr} {pm v : Value} {st : Stmt} {x1 x2 x3 x4 x5 : MD} {a1 a2 : Arg} {p1 p2 p3 p4 : Pos} {R : Result → Shared → Prop}
    (rm : Room A (n + 2)) (start : Ext B.T B.h₁ s.heap) (k : KCls s.heap C N dsc f0 f1 f2 f3 f4 f5 pm (mdOf st []) x1 x2 x3 x4 x5) (i : InitSt st a1 a2 p1 p2 p3 p4)
    (hR : ∀ x s', (∀ b o, s.heap.get? b = some o → s'.heap.get? b = some o) → s.heap.get? x = none → KeyAt s'.heap x C v → s'.gens = s.gens → s'.os = s.os → R (.ok (.ret (.ref x))) s') :
    codeAny (model B.prog B.w) A (.call (.ref C) ⟨[v], []⟩) R s := by
  obtain ⟨h, g, d, t, os⟩ := s
  obtain ⟨doc, c', ctv, fn⟩ := k.i.fn i.m
  have up : ∀ b o, h.get? b = some o → ((h.push emptyDict).push (instObj C h.objs.size)).get? b = some o := fun b o e => Heap.get?_push_of_some _ (Heap.get?_push_of_some _ e)
  have hb : ∀ self, Looks (model B.prog B.w) h (bindSpecial (.ref f0) self) (.ref f0, [self]) := fun self => by
    obtain ⟨o, e, _⟩ := fn.obj
    obtain ⟨c'', ctv', doc', e', _⟩ := k.i
    unfold bindSpecial
    exact ((Looks.ld e').andThen .now : Looks (model B.prog B.w) h (typeOf (.ref f0)) (.type "function")).andThen (Looks.of_pure (by kernel_rfl))
  refine make_core (kl_makes k) (kl_init k) hb (.inl rfl) ?_
  have hx : ((h.push emptyDict).push (instObj C h.objs.size)).get? (h.objs.size + 1) = some (instObj C h.objs.size) := by heap_get
  have frx : h.get? (h.objs.size + 1) = none := by
    cases q : h.get? (h.objs.size + 1) with
    | none => rfl
    | some o => exact absurd (Heap.lt_size q) (Nat.not_lt.mpr (Nat.le_succ _))
  have hbind : bindArgs (methFd "__init__" st [] doc pm c' ctv) ⟨[.ref (h.objs.size + 1), v], []⟩ = pure [(Str.ofString "self", .ref (h.objs.size + 1)), (Str.ofString "obj", v)] := by
    have := bind_plain (fd := methFd "__init__" st [] doc pm c' ctv) (as := [a1, a2]) (vs := [.ref (h.objs.size + 1), v]) i.m.args rfl rfl i.m.nda
    rw [this, List.map_cons, List.map_cons, i.n1, i.n2]; rfl
  refine call_fn (n := n) (T := []) (W := []) (ds := [(true, .val (.ref (h.objs.size + 1))), (true, .val v)]) (ρ₁ := [(Str.ofString "self", .val true (.val (.ref (h.objs.size + 1)))), (Str.ofString "obj", .val true (.val v))]) (room_tc rm) (fun zz1 h => nomatch h)
    (start.trans (.of_keep up)) (fn.keep up) (show FuncBody.stmts (fBody st) = _ from rfl) hbind CloOk.nil (by show LayOf B [] (fScope st).names _; rw [i.names]; exact .loc (.loc .nil)) (.val (.here rfl) (.val (.there (.here rfl)) .nil)) (.val (.val _) (.val (.val v) .nil)) (fun zz1 h => nomatch h) fun env s' F ok => ?_
  have kE := ok.ok.ext.ext.strict
  have k2 : ∀ b o, h.get? b = some o → s'.heap.get? b = some o := fun b o e => kE _ _ (up _ _ e)
  rw [i.body]
  refine wpAny_execs_cons (plainObj_wpAny_Assign_Attribute (wpAny_mono (ev_val (d := .val v) F (.tail _ (.head _)) (by decide +kernel) _ ok.ok) (fun v' s1 h1 => ?_) fun zz1 zz2 z => z.elim))
  have e1 : v' = v := by have r : Rep [] s1.heap v' (.val v) := h1.2; cases r; rfl
  subst e1
  refine wpAny_mono (ev_val (d := .val (.ref (h.objs.size + 1))) F (.head _) (by decide +kernel) _ (ok.ok.mono h1.1)) (fun v'' s2 h2 => ?_) fun zz1 zz2 z => z.elim
  have e2 : v'' = .ref (h.objs.size + 1) := by have r : Rep [] s2.heap v'' (.val (.ref (h.objs.size + 1))) := h2.2; cases r; rfl
  subst e2
  have k3 : ∀ b o, h.get? b = some o → s2.heap.get? b = some o := fun b o e => h2.1.ext.strict _ _ (h1.1.ext.strict _ _ (k2 _ _ e))
  have hx2 := h2.1.ext.strict _ _ (h1.1.ext.strict _ _ (kE _ _ hx))
  refine set_obj (k.keep k3) hx2 rfl rfl (fun sl => rfl) fun h' sb e => ?_
  refine wpAny_execs_nil ⟨rfl, ?_⟩
  refine hR _ _ (fun b o e' => sb.extBut _ _ (fun z => by rw [z, frx] at e'; cases e') (k3 _ _ e')) frx ⟨_, e, rfl, rfl, rfl⟩ ?_ ?_
  · exact h2.1.gens.trans (h1.1.gens.trans ok.ok.ext.gens)
  · exact h2.1.os.trans (h1.1.os.trans ok.ok.ext.os)
end Mine


open PySem PySem.W PyProof.Rows PySem.W.X
set_option maxHeartbeats 4000000
set_option pp.deepTerms false
set_option pp.deepTerms.threshold 3

namespace Mine
open PySem PySem.Calls PyProof.Rows Builtin Builtin.ObjectAttr Builtin.Getset_descriptor
/- a class of keys -/
structure KC where
  C : Addr
  N : Addr
  dsc : Addr
  f0 : Addr
  f1 : Addr
  f2 : Addr
  f3 : Addr
  f4 : Addr
  f5 : Addr
  cc : Addr
  pm : Value
  v : Value
noncomputable def KC.In (c : KC) (k : KSrc) (h : Heap) : Prop :=
  KCls h c.C c.N c.dsc c.f0 c.f1 c.f2 c.f3 c.f4 c.f5 c.pm (mdOf k.stI []) (mdOf k.stLt (mc1 c.cc)) (mdOf k.stGt (mc1 c.cc)) (mdOf k.stEq (mc1 c.cc)) (mdOf k.stLe (mc1 c.cc)) (mdOf k.stGe (mc1 c.cc)) ∧ h.IsCell c.cc (some c.v)
/- it stands in every heap from the base on -/
noncomputable def KIn (B : Base) (c : KC) (k : KSrc) : Prop := ∀ h, Ext B.T B.h₁ h → c.In k h

noncomputable def D.plainD : D → Bool
  | .val _ => false
  | _ => true
theorem rep_handed {W : List Addr} {h : Heap} {v : Value} {d : D} (r : Rep W h v d) (hd : d.plainD = true) : handedIn v = true := by
  cases r <;> first | rfl | cases hd
section
variable {X : Cx} {W : List Addr} {ρ : List (Str × Ent)} {c : KC} {k : KSrc}
theorem ev_obj {x : Str} {p1 p2 : Pos} {b : Bool} {d : D} (F : Fine X) (K : KIn X.B c k) (hm : (x, Ent.val b (.key c.C d)) ∈ ρ) (hd : d.plainD = true) (hx : okName x = true := by decide +kernel) : Ev X W ρ .s (.Attribute (.Name x p1) "obj" p2) d := fun s hs => by
  rw [arm_eval_Attribute]
  refine wpAny_bind ?_
  show wpAny _ _ (eval (.Name x p1) X.env) _ _ _
  refine wpAny_mono (ev_val F hm hx s hs) (fun v s1 h1 => wpAny_bind (wpAny_standAt (wpAny_bind (wpAny_holding ?_)))) fun zz1 zz2 z => z
  obtain ⟨k1, r⟩ := h1
  have r : Rep W s1.heap v (.key c.C d) := r
  cases r with
  | key kx hw rd =>
    refine get_obj ((K _ ((hs.mono k1).base F)).1) kx (rep_handed rd hd) (wpAny_bind (wpAny_pure (wpAny_pure ⟨k1.trans (sext_toks _ _), rd⟩)))

/- a call of a value that a name holds -/
theorem ev_callv {g : Str} {p : Pos} {b : Bool} {f : Value} {es : List Expr} {ds : List D} {l : Lv} {d : D} {pos : Pos} (F : Fine X) (hf : (g, Ent.val b (.val f)) ∈ ρ) (ha : EvTs X W ρ es ds) (hc : CallV X W f ds l d) (hk : KeepOk X W f)
    (hst : ∀ env, (backTo pos (starEach es env)).any (·.1) = false := by intro _; rfl) (hg : okName g = true := by decide +kernel) : Ev X W ρ l (.Call (.Name g p) es [] pos) d := fun s hs => by
  show wpAny X.M X.A (eval (.Name g p) X.env >>= fun v => callWith pos v [] (backTo pos (starEach es X.env)) (backToKw pos (keywordEach [] X.env))) _ _ s
  refine wpAny_bind (wpAny_mono (ev_val F hf hg s hs) (fun v s₁ h₁ => ?_) fun zz1 zz2 x => x)
  have e : v = f := by
    have r : Rep W s₁.heap v (.val f) := h₁.2
    cases r with | val => rfl
  subst e
  exact wpAny_mono (callWith_V F (hs.mono h₁.1) ha hc hk (hst _)) (fun v s' h => ⟨h₁.1.trans h.1, h.2.back h₁.1⟩) fun zz1 zz2 x => x

/- the class called -/
theorem callV_make {d : D} {n : Nat} {a1 a2 : Arg} {p1 p2 p3 p4 : Pos} (K : KIn X.B c k) (i : InitSt k.stI a1 a2 p1 p2 p3 p4) (hn : n + 2 ≤ X.n) (hd : d.kept = true) : CallV X W (.ref c.C) [d] .f (.key c.C d) := fun s ρ vs F hs hr => by
  obtain ⟨v, rfl, r⟩ := repTs_one hr
  have r' : Rep W s.heap v d := by cases d <;> first | exact r | cases hd
  refine wpAny_call (make_key (n := n) (F.room.less hn) (hs.base F) ((K _ (hs.base F)).1) i fun x s' kk fr kx g o => ?_)
  have hw : x ∉ W := fun z => by obtain ⟨o, e⟩ := hs.wal x z; rw [fr] at e; cases e
  exact ⟨⟨.of_keep kk, g, o⟩, .key kx hw (r'.keep kk), fun a e => by cases e; exact fr⟩
theorem keepOk_cls (K : KIn X.B c k) : KeepOk X W (.ref c.C) := fun s ρ F hs => by
  obtain ⟨k0, k2, k3, e⟩ := (K _ (hs.base F)).1.cls
  unfold keeperOf
  refine wpAny_bind (wpAny_load e ?_)
  exact wpAny_bind ((kl_makes (M := X.M) (K _ (hs.base F)).1).call _ _ _ _ (fun zz1 zz2 e => e) (wpAny_pure rfl))
end

/- a comparing method's text -/
structure CmpM (st : Stmt) (op : CmpOp) (a1 a2 : Arg) (kk : Nat) (p1 p2 p3 p4 p5 p6 p7 p8 p9 : Pos) : Prop where
  m : MethOk st [a1, a2]
  n1 : a1.arg = "self"
  n2 : a2.arg = "other"
  body : fBody st = [.Return (some (.Compare (.Call (.Name "mycmp" p1) [.Attribute (.Name "self" p2) "obj" p3, .Attribute (.Name "other" p4) "obj" p5] [] p6) [op] [.Constant (.int 0) kk p7] p8)) p9]
  names : (fScope st).names = [(Str.ofString "self", .local), (Str.ofString "other", .local), (Str.ofString "mycmp", .free)]
theorem cloOk_mc1 {W : List Addr} {h : Heap} {cc : Addr} {v : Value} (x : h.IsCell cc (some v)) : CloOk W h (mc1 cc) [(Str.ofString "mycmp", .val true (.val v))] := by
  have one : ∀ y c, (mc1 cc).lookup y = some c → y = Str.ofString "mycmp" ∧ c = cc := fun y c e => by
    unfold mc1 at e
    rw [List.lookup_cons] at e
    cases q : y == Str.ofString "mycmp" with
    | true => rw [q] at e; cases e; exact ⟨by simpa using q, rfl⟩
    | false => rw [q] at e; cases e
  refine ⟨fun y z c e1 e2 => (one y c e1).1.trans (one z c e2).1.symm, fun y c e => ?_, fun y e hm zz1 => ?_⟩
  · obtain ⟨o, ho, _⟩ := x; rw [(one y c e).2]; exact ⟨o, ho⟩
  · rcases List.mem_cons.mp hm with e | e
    · cases e; exact ⟨cc, v, by unfold mc1; rw [List.lookup_cons_self], x, v, rfl, .val v⟩
    · cases e
section
variable {X : Cx} {W : List Addr} {c : KC} {k : KSrc}
theorem callV_cmp {f : Addr} {name : Str} {st : Stmt} {op : CmpOp} {a b : D} {r : Bool} {z : Int} {n : Nat} {a1 a2 : Arg} {kk : Nat} {p1 p2 p3 p4 p5 p6 p7 p8 p9 : Pos} (K : KIn X.B c k) (hn : n + 1 ≤ X.n) (hkf : ∀ h, c.In k h → KF h f name (mdOf st (mc1 c.cc)) c.pm) (m : CmpM st op a1 a2 kk p1 p2 p3 p4 p5 p6 p7 p8 p9)
    (ha : a.plainD = true) (hb : b.plainD = true) (hcmp : ∀ X' : Cx, X'.B = X.B → X'.n = n → CallV X' W c.v [a, b] .f (.int z)) (hkeep : ∀ X' : Cx, X'.B = X.B → KeepOk X' W c.v) (hop : ∀ X' : Cx, CmpV X' W op (.int z) (.int 0) r) (hm : ∀ e : Expr, behindInMarks op (.Constant (.int 0) kk p7) = false) :
    CallV X W (.ref f) [.key c.C a, .key c.C b] .f (.bool r) := fun s ρ vs F hs hr => by
  obtain ⟨v1, v2, rfl, r1, r2⟩ := repTs_two hr
  have KI := K _ (hs.base F)
  obtain ⟨doc, c', ctv, fn⟩ := (hkf _ KI).fn m.m
  have hbind : bindArgs (methFd name st (mc1 c.cc) doc c.pm c' ctv) ⟨[v1, v2], []⟩ = pure [(Str.ofString "self", v1), (Str.ofString "other", v2)] := by
    have := bind_plain (fd := methFd name st (mc1 c.cc) doc c.pm c' ctv) (as := [a1, a2]) (vs := [v1, v2]) m.m.args rfl rfl m.m.nda
    rw [this, List.map_cons, List.map_cons, m.n1, m.n2]; rfl
  refine wpAny_call (call_fn (n := n) (T := []) (ds := [(true, .key c.C a), (true, .key c.C b)]) (ρp := [(Str.ofString "mycmp", .val true (.val c.v))])
    (ρ₁ := [(Str.ofString "self", .val true (.key c.C a)), (Str.ofString "other", .val true (.key c.C b)), (Str.ofString "mycmp", .val false (.val c.v))]) (F.room.less hn) (fun zz1 h => nomatch h) (hs.base F) fn (show FuncBody.stmts (fBody st) = _ from rfl) hbind (cloOk_mc1 KI.2)
    (by show LayOf X.B _ (fScope st).names _; rw [m.names]; exact .loc (.loc (.free (.head _) rfl .nil))) (.val (.here rfl) (.val (.there (.here rfl)) .nil)) (.val r1 (.val r2 .nil)) hs.wal fun env s' F' ok => ?_)
  rw [m.body]
  have main := ret_f (X := ⟨X.B, X.A.deeper env, env, s, n, [], closable (fScope st).names⟩) (W := W) (ρ := [(Str.ofString "self", .val true (.key c.C a)), (Str.ofString "other", .val true (.key c.C b)), (Str.ofString "mycmp", .val false (.val c.v))]) (N := fun zz1 zz2 => False) (rest := []) (pos := p9)
    (ev_cmp (pos := p8) (op := op) F' (ev_callv (g := Str.ofString "mycmp") (b := false) (p := p1) (pos := p6) F' (.tail _ (.tail _ (.head _))) (evTs_cons (ev_obj (x := Str.ofString "self") (p1 := p2) (p2 := p3) (k := k) F' K (.head _) ha) (evTs_cons (ev_obj (x := Str.ofString "other") (p1 := p4) (p2 := p5) (k := k) F' K (.tail _ (.head _)) hb) evTs_nil)) (hcmp ⟨X.B, X.A.deeper env, env, s, n, [], closable (fScope st).names⟩ rfl rfl) (hkeep _ rfl)) (ev_int (k := kk) (pos := p7)) (hop _) (hm (.Constant .none 0 p7)))
  refine wpAny_mono (main [] s' ok) (fun fl s'' h => ?_) fun zz1 zz2 h => h.elim
  cases fl with
  | next => exact h.elim
  | ret v =>
    have h' : Ret ⟨X.B, X.A.deeper env, env, s, n, [], closable (fScope st).names⟩ W .f (.bool r) v s'' := h
    exact h'
  | _ => exact h.elim
end
end Mine


open PySem PySem.W PyProof.Rows PySem.W.X
set_option maxHeartbeats 4000000
set_option pp.deepTerms false
set_option pp.deepTerms.threshold 3

namespace Mine
open PySem PySem.Calls PyProof.Rows Builtin Builtin.ObjectAttr Builtin.Getset_descriptor
section
variable {X : Cx} {W : List Addr} {ρ : List (Str × Ent)} {c : KC} {k : KSrc}
theorem rep_key {W : List Addr} {h : Heap} {v : Value} {C : Addr} {d : D} (r : RepT W h v (.key C d)) : ∃ x u, v = .ref x ∧ KeyAt h x C u ∧ x ∉ W ∧ Rep W h u d := by
  have r : Rep W h v (.key C d) := r
  cases r with | key kx hw rd => exact ⟨_, _, rfl, kx, hw, rd⟩
theorem Fine.in1 (F : Fine X) (hn : 1 ≤ X.n) : Fine { X with A := X.A.in1, n := X.n - 1 } :=
  { kind := F.kind, globals := F.globals, builtins := F.builtins, start := F.start, tsub := F.tsub, kd := F.kd, hnd := F.hnd, dep := (by have := F.dep; show X.A.depth + (X.n - 1) < _; (first | lia | omega)),
    uni := (by have := F.uni; show X.A.units + 1 + 8 * (X.n - 1) + 100 < _; (first | lia | omega)), cells := F.cells }
theorem Ok.in1 {s : Shared} (ok : Ok X W ρ s) : Ok { X with A := X.A.in1, n := X.n - 1 } W ρ s := ⟨ok.ext, ok.nd, ok.ent, ok.own, ok.wal⟩
end
end Mine


open PySem PySem.W PyProof.Rows PySem.W.X
set_option maxHeartbeats 4000000
set_option pp.deepTerms false
set_option pp.deepTerms.threshold 3

namespace Mine
open PySem PySem.Calls PyProof.Rows
/- an object that is no record -/
noncomputable def NoRec (o : Obj) : Prop := ∀ vs, o.data ≠ .fields vs
theorem codeRec_ext {T : List Addr} {h h' : Heap} {c : Value} {q : Str} (x : h.CodeRec c q) (k : Ext T h h') (nr : ∀ a ∈ T, ∃ o, h.get? a = some o ∧ NoRec o) : h'.CodeRec c q := by
  obtain ⟨c₂, o, vs, t, e, g, d, r⟩ := x
  refine ⟨c₂, o, vs, t, e, k.keep _ _ (fun z => ?_) g, d, r⟩
  obtain ⟨o', g', n⟩ := nr _ z
  rw [g] at g'; cases g'
  exact n vs d
theorem kf_ext {T : List Addr} {h h' : Heap} {f : Addr} {name : Str} {x : MD} {pm : Value} (y : KF h f name x pm) (k : Ext T h h') (hf : f ∉ T) (nr : ∀ a ∈ T, ∃ o, h.get? a = some o ∧ NoRec o) : KF h' f name x pm :=
  let ⟨c', ctv, doc, a, b⟩ := y; ⟨c', ctv, doc, k.keep _ _ hf a, codeRec_ext b k nr⟩
noncomputable def Ent.simple : Ent → Bool
  | .un => true
  | .val _ _ => true
  | .gl _ => true
  | _ => false
/- the slots that law may write -/
noncomputable def slotsOf (env : Env) (ρ : List (Str × Ent)) : List Addr := env.locals :: ρ.filterMap fun p => if p.2.rw && (env.kindOf p.1 == some .cell) then env.cells.lookup p.1 else none
theorem slots_mem {env : Env} {ρ : List (Str × Ent)} {a : Addr} (h : a ∈ slotsOf env ρ) : a = env.locals ∨ ∃ p ∈ ρ, p.2.rw = true ∧ env.kindOf p.1 = some .cell ∧ env.cells.lookup p.1 = some a := by
  rcases List.mem_cons.mp h with h | h
  · exact .inl h
  · obtain ⟨p, hp, e⟩ := List.mem_filterMap.mp h
    split at e
    · rename_i q
      rw [Bool.and_eq_true] at q
      exact .inr ⟨p, hp, q.1, by simpa using q.2, e⟩
    · cases e
theorem mem_slots {env : Env} {ρ : List (Str × Ent)} {a : Addr} {p : Str × Ent} (hp : p ∈ ρ) (hr : p.2.rw = true) (hk : env.kindOf p.1 = some .cell) (e : env.cells.lookup p.1 = some a) : a ∈ slotsOf env ρ :=
  .tail _ (List.mem_filterMap.mpr ⟨p, hp, by rw [if_pos (by rw [hr, hk]; rfl)]; exact e⟩)

noncomputable def reBase (X : Cx) (h : Heap) (T : List Addr) (g : h.Ns mainGlobals X.B.mg) (b : h.Ns builtinsNs X.B.mb) (l : h.NoLimit) (t1 : mainGlobals ∉ T) (t2 : builtinsNs ∉ T) (t3 : cStatics ∉ T) : Base :=
  ⟨X.B.prog, X.B.w, h, T, X.B.mg, X.B.mb, g, b, l, t1, t2, t3⟩
end Mine


open PySem PySem.W PyProof.Rows PySem.W.X
set_option maxHeartbeats 4000000
set_option pp.deepTerms false
set_option pp.deepTerms.threshold 3

namespace Mine
open PySem PySem.Calls PyProof.Rows
theorem lam_fnB {B' : Base} {f : Addr} {qual : Str} {params : Arguments} {body : Expr} {scope : Scope} {clos : List (Str × Addr)} (x : LamAt B'.h₁ f qual params body scope clos) (hf : f ∉ B'.T) (nr : ∀ a ∈ B'.T, ∃ o, B'.h₁.get? a = some o ∧ NoRec o)
    (hk : scope.kind = .function) (hc : scope.isCoroutine = false) (hg : scope.isGenerator = false) (nd : (scope.names.map (·.1)).Nodup) : ∃ pm c' ctv, FnB B' f (kla_fn "<lambda>" qual params body scope clos pm (.ref c') ctv) := by
  obtain ⟨pm, c', ctv, e, r⟩ := x
  refine ⟨pm, c', ctv, ⟨⟨⟨_, e, rfl⟩, r, rfl, rfl, hk, hc, hg, nd⟩, hf, fun c z w => ?_⟩⟩
  obtain ⟨c₂, o, vs, t, e', g, d, _⟩ := r
  cases e'
  cases z
  obtain ⟨o', g', n⟩ := nr _ w
  rw [g] at g'; cases g'
  exact n vs d

/- what the statement needs of the heap -/
structure MkIn (B : Base) (hE h : Heap) (env : Env) (ca : Addr) (fdC : FuncData) (stC : Stmt) (k : KSrc) (ar : Arg) (pr pr' : Pos) (cC PC cL PL : Addr) (v0 : Value) (pk : Option (Addr × Addr)) (used : List (Nat × Nat)) : Prop where
  glob : B.mg "cmp_to_key" = some (.ref ca)
  fn : FnIn h ca fdC
  isd : IsDef fdC stC
  cs : CmpSt stC k ar pr pr'
  ko : k.Ok
  qn : fdC.qualname = "cmp_to_key"
  code : fdC.code = .ref cC
  wd : Wd h B.mg B.mb cC PC v0
  kc : KCode h PC k.pos "cmp_to_key.<locals>.K" k.qK pk
  pkE : ∀ x, pk = some x → hE.get? x.2 = none
  ecode : env.code = .ref cL
  hdL : CodeHd h cL PL
  tabL : LTab h PL used
  baL : h.BuiltinsAt B.mg PL
  gPL : mainGlobals ≠ PL
  sPL : cStatics ≠ PL
  nP : PL ≠ PC
  nPK : ∀ x, pk = some x → x.2 ≠ PL
  tL : ∃ c₀ ps₀, hE.TableAt c₀ PL ps₀
  tC : ∃ c₀ ps₀, hE.TableAt c₀ PC ps₀
  gE : ∃ o, hE.get? mainGlobals = some o
  bE : ∃ o, hE.get? builtinsNs = some o
  cE : ∃ o, hE.get? cStatics = some o

theorem codeRec_ne {h : Heap} {c P : Addr} {q : Str} {ps : Array Value} (x : h.CodeRec (.ref c) q) (e : h.get? P = some (tabObj ps)) (ht : TriplesOk ps.toList) : c ≠ P := fun z => by
  obtain ⟨c₂, o, vs, t, e', g, d, r⟩ := x
  cases e'
  rw [z, e] at g; cases g
  exact NoTab.str d r ps ht rfl
theorem tabQ_tab {h h' : Heap} {P L : Addr} {q : Nat → Nat → Str} {ps : Array Value} (x : TabQ h P q) (hx : Heap.ExtBut L h h') (hP : P ≠ L) (e : h.get? L = some (tabObj ps)) (ht : TriplesOk ps.toList) : TabQ h' P q := by
  obtain ⟨qs, e1, t1, hq⟩ := x
  refine ⟨qs, hx _ _ hP e1, t1, fun pos cv z => ?_⟩
  obtain ⟨c', e2, e3, e4⟩ := hq pos cv z
  exact ⟨c', e2, e3, codeRec_extBut e4 hx (codeRec_ne e4 e ht)⟩
theorem kCode_tab {h h' : Heap} {P L : Addr} {pos : Pos} {qual : Str} {qK : Nat → Nat → Str} {pk : Option (Addr × Addr)} {ps : Array Value} (x : KCode h P pos qual qK pk) (hx : Heap.ExtBut L h h') (hP : P ≠ L) (e : h.get? L = some (tabObj ps)) (ht : TriplesOk ps.toList) (hk : ∀ x, pk = some x → x.2 ≠ L) : KCode h' P pos qual qK pk := by
  obtain ⟨qs, e1, t1, r⟩ := x
  refine ⟨qs, hx _ _ hP e1, t1, ?_⟩
  cases pk with
  | none => exact r
  | some y =>
    obtain ⟨r1, r2, r3, r4, r5⟩ := r
    have cn : y.1 ≠ L := codeRec_ne r2 e ht
    exact ⟨r1, codeRec_extBut r2 hx cn, codeHd_but r3 hx cn, tabQ_tab r4 hx (hk _ rfl) e ht, r5⟩
theorem Wd.tab {h h' : Heap} {mg mb : Str → Option Value} {c P : Addr} {v0 : Value} (x : Wd h mg mb c P v0) (tk : TKeep h h') (th : ∀ b o, h.get? b = some o → ∃ o', h'.get? b = some o') : Wd h' mg mb c P v0 :=
  { x with g := tk.ns x.g, b := tk.ns x.b, ba := (tk.bi x.ba), sm := (let ⟨o, e⟩ := x.sm; th _ _ e), lim := tk.lim x.lim, op := (let ⟨mc, n, e⟩ := x.op; ⟨mc, tk.ns n, e⟩), hd := tk.codeHd x.hd }
theorem there_but {P : Addr} {h h' : Heap} (x : Heap.ExtBut P h h') (e : ∃ o, h'.get? P = some o) : ∀ b o, h.get? b = some o → ∃ o', h'.get? b = some o' := fun b o q => by
  by_cases z : b = P
  · rw [z]; exact e
  · exact ⟨o, x _ _ z q⟩

theorem mk_expr {X : Cx} {hE : Heap} {ρ : List (Str × Ent)} {s : Shared} {ca : Addr} {fdC : FuncData} {stC : Stmt} {k : KSrc} {ar : Arg} {pr pr' : Pos} {cC PC cL PL : Addr} {v0 : Value} {pk : Option (Addr × Addr)} {used : List (Nat × Nat)} {n : Nat}
    {params : Arguments} {body : Expr} {scope : Scope} {pos p1 p2 : Pos} {clos : List (Str × Addr)} {Q : Value → Shared → Prop}
    (F : Fine X) (ok : Ok X [] ρ s) (hn : n + 1 ≤ X.n) (mi : MkIn X.B hE s.heap X.env ca fdC stC k ar pr pr' cC PC cL PL v0 pk used) (old : OldK hE s.heap) (hg : (Str.ofString "cmp_to_key", Ent.gl (.ref ca)) ∈ ρ)
    (hdef : defaultsOf params X.env = ([], [])) (hcl : closureFor scope X.env = pure clos) (hu : (pos.line, pos.col) ∉ used)
    (hq : ∀ lam cK PK C N dsc f0 f1 f2 f3 f4 f5 cc h1 s', TKeep s.heap s'.heap → OldK hE s'.heap → s.heap.get? lam = none → LamAt s'.heap lam (X.env.qual ++ "<lambda>") params body scope clos → (∀ b o, s.heap.get? b = some o → ∃ o', h1.get? b = some o') →
      CmpRes k h1 s'.heap (.ref lam) PC cK PK C N dsc f0 f1 f2 f3 f4 f5 cc pk ((X.B.mg "__name__").getD .none) →
      MkIn X.B hE s'.heap X.env ca fdC stC k ar pr pr' cC PC cL PL v0 (some (cK, PK)) ((pos.line, pos.col) :: used) → s'.gens = s.gens → s'.os = s.os → Q (.ref C) s') :
    wpAny X.M X.A (eval (.Call (.Name "cmp_to_key" p1) [.Lambda params body scope pos] [] p2) X.env) Q NoE s := by
  obtain ⟨h, g, d, t, os⟩ := s
  show wpAny X.M X.A (eval (.Name "cmp_to_key" p1) X.env >>= fun v => callWith p2 v [] (backTo p2 (starEach [.Lambda params body scope pos] X.env)) (backToKw p2 (keywordEach [] X.env))) _ _ _
  have hkd : X.env.kindOf "cmp_to_key" = some .globalImplicit := by
    rcases ok.ent _ hg with ⟨v, e, hk, _⟩ | ⟨⟨ov, _, z⟩, _⟩
    · exact hk
    · cases z
  refine wpAny_bind (Calls.Name_function_global F.kind hkd (Calls.loadGlobal_global (by rw [F.globals]; exact ok.nsg F) mi.glob ?_) (by decide +kernel))
  have fnAt : ∀ {h' : Heap}, TKeep h h' → FnAt ca h' := fun tk => by
    obtain ⟨o, e, dd⟩ := (tk.fnIn mi.fn).obj
    obtain ⟨oc, od, odt, osl⟩ := o
    cases dd
    exact ⟨oc, od, _, osl, e⟩
  refine PySem.W.callWith_F (fnAt (.of fun zz1 zz2 e => e)) (wpAny_items_cons (lam_eval hdef hcl F.globals (ok.nsg F) mi.ecode mi.hdL mi.tabL hu mi.gPL mi.baL fun f h1 t1 tk1 x1 gr1 fr1 la1 tab1 => wpAny_items_nil ⟨fnAt tk1, ?_⟩) rfl)
  obtain ⟨psL, eL, tL, _⟩ := id mi.tabL
  have th1 := there_but x1 (let ⟨ps, more, _, e⟩ := gr1; ⟨_, e⟩)
  have kc1 := kCode_tab mi.kc x1 mi.nP.symm eL tL mi.nPK
  refine wpAny_call (cmp_call (B := reBase X h1 [] (tk1.ns (ok.nsg F)) (tk1.ns (ok.nsb F)) (tk1.lim (ok.lim F)) List.not_mem_nil List.not_mem_nil List.not_mem_nil) (n := n) (F.room.less hn) (.refl ..) (tk1.fnIn mi.fn) mi.isd mi.cs mi.ko mi.qn mi.code (mi.wd.tab tk1 th1) kc1 fun cK PK C N dsc f0 f1 f2 f3 f4 f5 cc s' cr gg oo => ?_)
  obtain ⟨cL0, psL0, tL0⟩ := mi.tL
  obtain ⟨cC0, psC0, tC0⟩ := mi.tC
  have tk2 : TKeep h1 s'.heap := cr.tk kc1
  have frPK : hE.get? PK = none := by
    cases hpk : pk with
    | none =>
      have z := cr.pkn hpk
      cases q : hE.get? PK with
      | none => rfl
      | some o =>
        obtain ⟨o', e'⟩ := old.there _ _ q
        obtain ⟨o'', e''⟩ := th1 _ _ e'
        have z : h1.get? PK = none := z
        rw [z] at e''; cases e''
    | some x => have z := cr.pks x hpk; have w := mi.pkE x hpk; rw [z] at w; exact w
  have old1 : OldK hE h1 := oldK_grown (T := []) old (fun zz1 h => nomatch h) tL0 gr1 (fun b o e1 zz1 e2 => x1 _ _ e1 e2) mi.sPL.symm
  have old2 : OldK hE s'.heap := oldK_grown (T := [PK]) old1 (fun a ha => by rw [List.mem_singleton.mp ha]; exact frPK) tC0 cr.grown (fun b o e1 e2 e3 => cr.keep _ _ e1 (fun z => e2 (z ▸ .head _)) e3) mi.wd.sP.symm
  have nPKL : PK ≠ PL := fun z => by
    obtain ⟨ps1, eL1, _⟩ := id tab1
    cases hpk : pk with
    | none => have q := cr.pkn hpk; have q : h1.get? PK = none := q; rw [z, eL1] at q; cases q
    | some x => have q := cr.pks x hpk; exact mi.nPK x hpk (by rw [q]; exact z)
  have th2 : ∀ b o, h1.get? b = some o → ∃ o', s'.heap.get? b = some o' := fun b o e => by
    obtain ⟨ps, e1, _, _, _, _, ⟨ps', e2, _⟩, _⟩ := id cr.code
    by_cases z1 : b = PC
    · rw [z1]; exact ⟨_, e1⟩
    · by_cases z2 : b = PK
      · rw [z2]; exact ⟨_, e2⟩
      · exact ⟨o, cr.keep _ _ z1 z2 e⟩
  have tk12 := tk1.trans tk2
  have mi' : MkIn X.B hE s'.heap X.env ca fdC stC k ar pr pr' cC PC cL PL v0 (some (cK, PK)) ((pos.line, pos.col) :: used) :=
    { mi with
      fn := tk12.fnIn mi.fn
      wd := (mi.wd.tab tk1 th1).tab tk2 th2
      kc := cr.code
      pkE := fun x z => by cases z; exact frPK
      hdL := tk12.codeHd mi.hdL
      tabL := (let ⟨ps, e, r⟩ := tab1; ⟨ps, cr.keep _ _ mi.nP nPKL.symm e, r⟩)
      baL := (tk12.bi mi.baL)
      nPK := fun x z => by cases z; exact nPKL }
  exact hq f cK PK C N dsc f0 f1 f2 f3 f4 f5 cc h1 s' (tk1.trans tk2) old2 fr1 (tk2.lam la1) th1 cr mi' gg oo
end Mine



namespace Mine
open PySem PyProof.Rows PySem.Calls

noncomputable def recAt (st : Stmt) : DefRec := match st with
  | .FunctionDef name a b _ _ _ sc _ _ pos => ⟨name, a, b, sc, pos⟩
  | _ => ⟨Str.empty, ⟨[], [], Option.none, [], [], Option.none, []⟩, [], default, default⟩

noncomputable def base0 (prog : Program) (w : World) {p : Program} {loose : List Str} {mean : ExcName → Option Value} {mg mb : Str → Option Value} {h : Heap} (T : Top p loose mean mg mb h) : Base where
  prog := prog
  w := w
  h₁ := h
  T := []
  mg := mg
  mb := mb
  nsg := T.g
  nsb := T.b
  lim := T.nolimit
  tg := List.not_mem_nil
  tb := List.not_mem_nil
  ts := List.not_mem_nil

section
variable {prog : Program} {w : World} {p : Program} {loose : List Str} {mean : ExcName → Option Value} {mg mb : Str → Option Value} {h : Heap} (T : Top p loose mean mg mb h)
include T
theorem fn_base {st : Stmt} (hm : recAt st ∈ recsOf p) (hb : (recAt st).body = fBody st) (hp : (recAt st).params = fArgs st) (hs : (recAt st).scope = fScope st)
    (hk : (fScope st).kind = .function) (hc : (fScope st).isCoroutine = false) (hg : (fScope st).isGenerator = false) (nd : ((fScope st).names.map (·.1)).Nodup) :
    ∃ a, mg (recAt st).name = some (.ref a) ∧ DefAt (base0 prog w T) a st := by
  obtain ⟨a, o, pm, code, doc, e, g, dt, cr⟩ := T.fn _ hm
  rw [hb, hp, hs] at dt
  refine ⟨a, e, ⟨_, ⟨⟨⟨o, g, dt⟩, cr, rfl, rfl, hk, hc, hg, nd⟩, List.not_mem_nil, fun zz1 zz2 => List.not_mem_nil⟩, ⟨rfl, rfl, rfl, rfl, rfl⟩⟩⟩
theorem glob_bi (x : Str) {v : Value} (hh : x ∉ startupNames ∧ x ∉ loose ∧ x ∉ (recsOf p).map (·.name) ∧ x ∉ (litsOf p).map (·.1) ∧ x ∉ (clssOf p loose).map (·.name) ∧ x ≠ Str.ofString "__name__") (hv : bootBuiltins x = some v) : GlobIs (base0 prog w T) x v :=
  let ⟨h1, h2, h3, h4, h5, hx⟩ := hh; .inr ⟨T.free x h1 h2 h3 h4 h5, (T.builtins x hx).trans hv⟩
end

noncomputable def env0 : Env := { scope := ⟨.function, [], false, false, []⟩, locals := 0, globals := mainGlobals, cells := [], builtins := builtinsNs }
noncomputable def cx0 (B : Base) (s : Shared) (n : Nat) : Cx := ⟨B, callerA, env0, s, n, [], []⟩
theorem fine0 {B : Base} {s : Shared} {n : Nat} (hs : s.heap = B.h₁) (hn : n ≤ 600) : Fine (cx0 B s n) where
  kind := rfl
  globals := rfl
  builtins := rfl
  start := by show Ext B.T B.h₁ s.heap; rw [hs]; exact .refl ..
  tsub := fun zz1 h => nomatch h
  kd := fun zz1 h => nomatch h
  hnd := rfl
  dep := by show 1 + claimMargin + n < recursionLimit; unfold claimMargin recursionLimit; (first | lia | omega)
  uni := by show 4 + 8 * n + 100 < cLine; unfold cLine; (first | lia | omega)
  cells := fun x y c h => by cases h
theorem ok0 {B : Base} {s : Shared} {n : Nat} : Ok (cx0 B s n) [] [] s where
  ext := .refl ..
  nd := List.nodup_nil
  ent := fun zz1 h => nomatch h
  own := fun zz1 h => nomatch h
  wal := fun zz1 h => nomatch h

theorem well_list {P : Params} {h : Heap} {a : Addr} {vs : List Value} {xs : List PyData} (x : Well P h (.ref a) (ofPy (.list xs))) (hl : h.IsList a vs.toArray) : h.get? a = some { cls := .type "list", data := .seq vs.toArray } := by
  rw [ofPy] at x
  cases x with
  | list e _ =>
    obtain ⟨o, e2, _, n, hd⟩ := hl
    rw [e] at e2
    cases e2
    have hd : Data.seq _ _ = Data.seq _ _ := hd
    injection hd with h1 h2
    rw [e, h1]
end Mine


open PySem PySem.W PyProof.Rows PySem.W.X
set_option maxHeartbeats 4000000
set_option pp.deepTerms false
set_option pp.deepTerms.threshold 3

namespace Mine
open PySem PySem.Calls PyProof.Rows
theorem ns_none_of {K : Frag} {h : Heap} {a : Addr} {m : Str → Option Value} {n : Str} (X : K.In h) (G : h.Ns a m) (e : nsIn K a n = some none) : m n = none := by
  obtain ⟨o, es, ep, ho, hd, _, hf⟩ := G
  unfold nsIn at e
  split at e
  · rename_i c d es' n' sl q
    have := X _ _ q
    rw [ho] at this; cases this
    cases hd
    rw [← hf]
    split at e
    · cases e
    · rename_i z
      unfold nsFind findBy
      rw [← Array.find?_toList, z]; rfl
  · cases e
section
variable {prog : Program} {w : World} {p : Program} {loose : List Str} {mean : ExcName → Option Value} {mg mb : Str → Option Value} {h : Heap}
/- what the statement needs, at law's start -/
theorem mk_start (T : Top p loose mean mg mb h) {K : Frag} (KX : K.In h) {stC : Stmt} {k : KSrc} {ar : Arg} {pr pr' : Pos} {cC PC cL PL : Addr} {s0 : Str} {t0 : Tok}
    (cs : CmpSt stC k ar pr pr') (ko : k.Ok) (hm : recAt stC ∈ recsOf p) (hnm : (recAt stC).name = "cmp_to_key") (hb : (recAt stC).body = fBody stC) (hp : (recAt stC).params = fArgs stC) (hs : (recAt stC).scope = fScope stC)
    (hk : (fScope stC).kind = .function) (hc : (fScope stC).isCoroutine = false) (hg : (fScope stC).isGenerator = false) (nd : ((fScope stC).names.map (·.1)).Nodup)
    (rC : (recsOf p).find? (fun e => e.name == ("cmp_to_key" : Str)) = some (recAt stC)) (tC : tabIn K "cmp_to_key" = some (cC, PC)) {dL : DefRec} (rL : (recsOf p).find? (fun e => e.name == ("law" : Str)) = some dL) (tL : tabIn K "law" = some (cL, PL))
    (q1 : nsIn K cStatics "thirdparty.any" = some none) (q2 : nsIn K mainGlobals "__name__" = some (some (.str s0 t0))) (q3 : ∃ o, h.get? sysModules = some o) (q4 : nsIn K mainGlobals "object" = some none)
    (n1 : mainGlobals ≠ PC) (n2 : cStatics ≠ PC) (n3 : mainGlobals ≠ PL) (n4 : cStatics ≠ PL) (n5 : PL ≠ PC) (env : Env) (he : env.code = .ref cL) :
    ∃ ca fdC, FnB (base0 prog w T) ca fdC ∧ MkIn (base0 prog w T) h h env ca fdC stC k ar pr pr' cC PC cL PL (.str s0 t0) none [] := by
  obtain ⟨a, o, pm, code, doc, e, g, dt, cr⟩ := T.fn _ hm
  rw [hb, hp, hs] at dt
  obtain ⟨hdC, eC⟩ := tab_of T KX rC tC
  obtain ⟨hdL, eL⟩ := tab_of T KX rL tL
  rw [hnm] at e
  have cd := law_code KX T.g tC e g dt
  obtain ⟨bm, ob, b1, b2, b3, b4, b5, b6⟩ := T.bmain
  have nb : ∀ {P : Addr} {ps : Array Value}, h.get? P = some (tabObj ps) → bm ≠ P := fun {P ps} q z => by
    rw [z, q] at b3; cases b3; cases b4
  have ng : bm ≠ mainGlobals := fun z => by
    obtain ⟨o', es, ep, q, d', _⟩ := T.g
    rw [z, q] at b3; cases b3
    rw [b6] at d'; cases d'
  have fb : FnB (base0 prog w T) a (docDef (recAt stC).name (fArgs stC) (fBody stC) (fScope stC) pm code doc) := ⟨⟨⟨o, g, dt⟩, cr, rfl, rfl, hk, hc, hg, nd⟩, List.not_mem_nil, fun zz1 zz2 => List.not_mem_nil⟩
  obtain ⟨mc, nl, _⟩ := T.nolimit
  refine ⟨a, _, fb, { glob := e, fn := fb.fn, isd := ⟨rfl, rfl, rfl, rfl, rfl⟩, cs := cs, ko := ko, qn := hnm, code := cd, wd := ?_, kc := ⟨#[], eC, trivial, rfl⟩, pkE := fun x z => (by cases z), ecode := he, hdL := hdL, tabL := ⟨#[], eL, trivial, fun zz1 zz2 => rfl⟩, baL := ⟨bm, ob, b1, b2, ng, nb eL, b3, b4, b5, b6⟩, gPL := n3, sPL := n4, nP := n5, nPK := fun x z => (by cases z), tL := ⟨cL, #[], hdL.tab eL⟩, tC := ⟨cC, #[], hdC.tab eC⟩, gE := (let ⟨o, _, _, e, _⟩ := T.g; ⟨o, e⟩), bE := (let ⟨o, _, _, e, _⟩ := T.b; ⟨o, e⟩), cE := (let ⟨o, _, _, e, _⟩ := nl; ⟨o, e⟩) }⟩
  exact { g := T.g, b := T.b, ba := ⟨bm, ob, b1, b2, ng, nb eC, b3, b4, b5, b6⟩, go := mg_none_of KX T.g q4, bo := (T.builtins _ (by decide +kernel)).trans (by kernel_rfl), bb := (T.builtins _ (by decide +kernel)).trans (by kernel_rfl), gn := mg_of KX T.g q2, v0 := ⟨s0, t0, rfl⟩, sm := q3, lim := T.nolimit, op := ⟨mc, nl, ns_none_of KX nl q1⟩, gP := n1, sP := n2, hd := hdC }
end
end Mine


open PySem PySem.W PyProof.Rows PySem.W.X
set_option maxHeartbeats 4000000
set_option pp.deepTerms false
set_option pp.deepTerms.threshold 3

namespace Mine
open PySem PySem.Calls PyProof.Rows
/- an object that holds a name's value -/
structure SlotObj (o : Obj) : Prop where
  nf : ∀ vs, o.data ≠ .fields vs
  nfn : ∀ fd, o.data ≠ .func fd
  np : o.data ≠ .plain
theorem slotObj_ns {h : Heap} {a : Addr} {m : Str → Option Value} (n : h.Ns a m) : ∃ o, h.get? a = some o ∧ SlotObj o :=
  let ⟨o, es, ep, q, d, _⟩ := n; ⟨o, q, ⟨fun vs z => (by rw [d] at z; cases z), fun vs z => (by rw [d] at z; cases z), fun z => (by rw [d] at z; cases z)⟩⟩
theorem slotObj_cell {h : Heap} {a : Addr} {v : Option Value} (n : h.IsCell a v) : ∃ o, h.get? a = some o ∧ SlotObj o :=
  let ⟨o, q, d⟩ := n; ⟨o, q, ⟨fun vs z => (by rw [d] at z; cases z), fun vs z => (by rw [d] at z; cases z), fun z => (by rw [d] at z; cases z)⟩⟩
theorem SlotObj.noTab {o : Obj} (x : SlotObj o) : NoTab o := .data x.nf
theorem slot_at {X : Cx} {W : List Addr} {ρ : List (Str × Ent)} {s : Shared} (ok : Ok X W ρ s) (hml : ∃ m, s.heap.Ns X.env.locals m) : ∀ a ∈ slotsOf X.env ρ, ∃ o, s.heap.get? a = some o ∧ SlotObj o := fun a ha => by
  rcases slots_mem ha with rfl | ⟨p, hp, hr, hk, e⟩
  · obtain ⟨m, n⟩ := hml; exact slotObj_ns n
  · rcases ok.ent p hp with ⟨v, e', _⟩ | ⟨⟨ov, h1, _⟩, _⟩
    · rw [e'] at hr; cases hr
    · rcases h1 with ⟨z, _⟩ | ⟨_, c, e1, n⟩
      · rw [hk] at z; cases z
      · rw [e] at e1; cases e1; exact slotObj_cell n
/- law's own slots, seen from its start -/
theorem slot_new {X : Cx} {W : List Addr} {ρ : List (Str × Ent)} {s : Shared} (ok : Ok X W ρ s) (hT : X.T = []) (hloc : X.sE.heap.get? X.env.locals = none) : ∀ a ∈ slotsOf X.env ρ, X.sE.heap.get? a = none := fun a ha => by
  rcases slots_mem ha with rfl | ⟨p, hp, hr, hk, e⟩
  · exact hloc
  · rcases ok.ent p hp with ⟨v, e', _⟩ | ⟨_, fr⟩
    · rw [e'] at hr; cases hr
    · rcases (fr hr).2.2 a hk e with z | z
      · exact z
      · rw [hT] at z; cases z
theorem ns_loc {X : Cx} {W : List Addr} {ρ : List (Str × Ent)} {s : Shared} {p : Str × Ent} (ok : Ok X W ρ s) (hp : p ∈ ρ) (hk : X.env.kindOf p.1 = some .local) : ∃ m, s.heap.Ns X.env.locals m := by
  rcases ok.ent p hp with ⟨v, _, e, _⟩ | ⟨⟨ov, h1, _⟩, _⟩
  · rw [hk] at e; cases e
  · rcases h1 with ⟨_, m, n, _⟩ | ⟨z, _⟩
    · exact ⟨m, n⟩
    · rw [hk] at z; rcases z with z | z <;> cases z

noncomputable def reBase2 (B : Base) (h : Heap) (T : List Addr) (g : h.Ns mainGlobals B.mg) (b : h.Ns builtinsNs B.mb) (l : h.NoLimit) (t1 : mainGlobals ∉ T) (t2 : builtinsNs ∉ T) (t3 : cStatics ∉ T) : Base :=
  ⟨B.prog, B.w, h, T, B.mg, B.mb, g, b, l, t1, t2, t3⟩
/- law's frame goes on over the heap as it is now -/
theorem rebase2 {X : Cx} {ρ : List (Str × Ent)} {s s' : Shared} {hE : Heap} (F : Fine X) (ok : Ok X [] ρ s) (fr : ∀ a ∈ slotsOf X.env ρ, hE.get? a = none) (tk : TKeep s.heap s'.heap) (hv : ∀ p ∈ ρ, p.2.simple = true)
    (gE : ∃ o, hE.get? mainGlobals = some o) (bE : ∃ o, hE.get? builtinsNs = some o) (cE : ∃ o, hE.get? cStatics = some o) :
    ∃ B' : Base, B'.prog = X.B.prog ∧ B'.w = X.B.w ∧ B'.mg = X.B.mg ∧ B'.mb = X.B.mb ∧ B'.h₁ = s'.heap ∧ B'.T = slotsOf X.env ρ ∧
      Fine ⟨B', X.A, X.env, s', X.n, slotsOf X.env ρ, X.κ⟩ ∧ Ok ⟨B', X.A, X.env, s', X.n, slotsOf X.env ρ, X.κ⟩ [] ρ s' := by
  have out : ∀ a, (∃ o, hE.get? a = some o) → a ∉ slotsOf X.env ρ := fun a ⟨o, e⟩ z => by rw [fr a z] at e; cases e
  refine ⟨reBase2 X.B s'.heap (slotsOf X.env ρ) (tk.ns (ok.nsg F)) (tk.ns (ok.nsb F)) (tk.lim (ok.lim F)) (out _ gE) (out _ bE) (out _ cE), rfl, rfl, rfl, rfl, rfl, rfl, ?_, ?_⟩
  · exact ⟨F.kind, F.globals, F.builtins, .refl .., fun a ha => ha, F.kd, F.hnd, F.dep, F.uni, F.cells⟩
  · refine ⟨.refl .., ok.nd, fun p hp => ?_, fun p hp q hq a ns b ms e1 e2 => ?_, fun zz1 h => nomatch h⟩
    · rcases ok.ent p hp with g | ⟨⟨ov, h1, h2⟩, fr⟩
      · exact .inl g
      · refine .inr ⟨⟨ov, ?_, ?_⟩, fun hr => ?_⟩
        · rcases h1 with ⟨a, m, n, e⟩ | ⟨a, c, e, n⟩
          · exact .inl ⟨a, m, tk.ns n, e⟩
          · exact .inr ⟨a, c, e, tk.cell n⟩
        · have sp := hv p hp
          obtain ⟨y, e⟩ := p
          cases e with
          | un => trivial
          | val _ d => obtain ⟨v, e, r⟩ := h2; exact ⟨v, e, tk.rep r⟩
          | gl v => cases h2
          | _ => cases sp
        · have f := fr hr
          exact ⟨fun zz1 => .inr (.head _), f.2.1, fun c hk e => .inr (mem_slots hp hr hk e)⟩
    · have sp := hv p hp
      rw [e1] at sp; cases sp

/- what stays where it is, from one base to the next -/
structure Re (X : Cx) (ρ : List (Str × Ent)) (s s' : Shared) (B' : Base) : Prop where
  prog : B'.prog = X.B.prog
  w : B'.w = X.B.w
  mg : B'.mg = X.B.mg
  mb : B'.mb = X.B.mb
  h₁ : B'.h₁ = s'.heap
  T : B'.T = slotsOf X.env ρ
  tk : TKeep s.heap s'.heap
  base : Ext X.B.T X.B.h₁ s.heap
  sl : ∀ a ∈ slotsOf X.env ρ, ∃ o, s.heap.get? a = some o ∧ SlotObj o
theorem Re.nr {X : Cx} {ρ : List (Str × Ent)} {s s' : Shared} {B' : Base} (r : Re X ρ s s' B') : ∀ a ∈ B'.T, ∃ o, B'.h₁.get? a = some o ∧ SlotObj o := fun a ha => by
  rw [r.T] at ha
  obtain ⟨o, e, n⟩ := r.sl a ha
  exact ⟨o, by rw [r.h₁]; exact r.tk _ _ e n.noTab, n⟩
theorem Re.fnB {X : Cx} {ρ : List (Str × Ent)} {s s' : Shared} {B' : Base} {a : Addr} {fd : FuncData} (r : Re X ρ s s' B') (fb : FnB X.B a fd) : FnB B' a fd := by
  have fE := fb.at r.base
  refine ⟨by rw [r.h₁]; exact r.tk.fnIn fE, fun z => ?_, fun c e z => ?_⟩
  · rw [r.T] at z
    obtain ⟨o, e, n⟩ := r.sl _ z
    obtain ⟨o', e', d⟩ := fE.obj
    rw [e] at e'; cases e'
    exact n.nfn _ d
  · rw [r.T] at z
    obtain ⟨o, e1, n⟩ := r.sl _ z
    obtain ⟨c₂, o', vs, t, e', g, d, _⟩ := fE.code
    rw [e] at e'; cases e'
    rw [e1] at g; cases g
    exact n.nf _ d
theorem Re.defAt {X : Cx} {ρ : List (Str × Ent)} {s s' : Shared} {B' : Base} {a : Addr} {st : Stmt} (r : Re X ρ s s' B') (d : DefAt X.B a st) : DefAt B' a st :=
  let ⟨fd, fb, i⟩ := d.fn; ⟨fd, r.fnB fb, i⟩
theorem Re.glob {X : Cx} {ρ : List (Str × Ent)} {s s' : Shared} {B' : Base} {x : Str} {v : Value} (r : Re X ρ s s' B') (d : GlobIs X.B x v) : GlobIs B' x v := by
  unfold GlobIs
  rw [r.mg, r.mb]; exact d

noncomputable def KC.addrs (c : KC) : List Addr := [c.C, c.N, c.dsc, c.f0, c.f1, c.f2, c.f3, c.f4, c.f5, c.cc]
/- a class that stands -/
structure KS (B : Base) (c : KC) (k : KSrc) : Prop where
  at_ : c.In k B.h₁
  away : ∀ a ∈ c.addrs, a ∉ B.T
  nr : ∀ a ∈ B.T, ∃ o, B.h₁.get? a = some o ∧ SlotObj o
theorem kf_ext2 {T : List Addr} {h h' : Heap} {f : Addr} {name : Str} {x : MD} {pm : Value} (y : KF h f name x pm) (k : Ext T h h') (hf : f ∉ T) (nr : ∀ a ∈ T, ∃ o, h.get? a = some o ∧ SlotObj o) : KF h' f name x pm :=
  kf_ext y k hf fun a ha => let ⟨o, e, n⟩ := nr a ha; ⟨o, e, n.nf⟩
theorem KS.kin {B : Base} {c : KC} {k : KSrc} (x : KS B c k) : KIn B c k := fun h e => by
  obtain ⟨⟨⟨a, b, d, q⟩, ⟨a1, b1, c1, d1, e1, f1, g1, i1, j1, n1⟩, ⟨t, q2⟩, i, lt, gt, eq, le, ge⟩, o, q3, d3⟩ := x.at_
  have nT := x.away
  have nr := x.nr
  refine ⟨⟨⟨a, b, d, e.keep _ _ (nT c.C (by simp [KC.addrs])) q⟩, ⟨a1, b1, c1, d1, e1, f1, g1, i1, j1, ns_ext e n1 (nT c.N (by simp [KC.addrs]))⟩, ⟨t, e.keep _ _ (nT c.dsc (by simp [KC.addrs])) q2⟩,
    kf_ext2 i e (nT c.f0 (by simp [KC.addrs])) nr, kf_ext2 lt e (nT c.f1 (by simp [KC.addrs])) nr, kf_ext2 gt e (nT c.f2 (by simp [KC.addrs])) nr, kf_ext2 eq e (nT c.f3 (by simp [KC.addrs])) nr, kf_ext2 le e (nT c.f4 (by simp [KC.addrs])) nr, kf_ext2 ge e (nT c.f5 (by simp [KC.addrs])) nr⟩, ?_⟩
  exact ⟨o, e.keep _ _ (nT c.cc (by simp [KC.addrs])) q3, d3⟩
theorem TKeep.kf {h h' : Heap} (k : TKeep h h') {f : Addr} {name : Str} {x : MD} {pm : Value} (y : KF h f name x pm) : KF h' f name x pm :=
  let ⟨c', ctv, doc, a, b⟩ := y; ⟨c', ctv, doc, k _ _ a (.cls (by intro z; cases z)), k.codeRec b⟩
theorem TKeep.kcIn {h h' : Heap} (tk : TKeep h h') {c : KC} {k : KSrc} (x : c.In k h) : c.In k h' := by
  obtain ⟨⟨⟨a, b, d, q⟩, ⟨a1, b1, c1, d1, e1, f1, g1, i1, j1, n1⟩, ⟨t, q2⟩, i, lt, gt, eq, le, ge⟩, n⟩ := x
  exact ⟨⟨⟨a, b, d, tk _ _ q (.cls (by intro z; cases z))⟩, ⟨a1, b1, c1, d1, e1, f1, g1, i1, j1, tk.ns n1⟩, ⟨t, tk _ _ q2 (.cls (by intro z; cases z))⟩, tk.kf i, tk.kf lt, tk.kf gt, tk.kf eq, tk.kf le, tk.kf ge⟩, tk.cell n⟩
theorem Re.ks {X : Cx} {ρ : List (Str × Ent)} {s s' : Shared} {B' : Base} {c : KC} {k : KSrc} (r : Re X ρ s s' B') (x : KS X.B c k) (hT : ∀ a ∈ slotsOf X.env ρ, a ∈ X.B.T) : KS B' c k :=
  ⟨by rw [r.h₁]; exact r.tk.kcIn (x.kin _ r.base), fun a ha z => x.away a ha (hT a (by rw [← r.T]; exact z)), r.nr⟩

end Mine


open PySem PySem.W PyProof.Rows PySem.W.X
set_option maxHeartbeats 4000000
set_option pp.deepTerms false
set_option pp.deepTerms.threshold 3

namespace Mine
open PySem PySem.Calls PyProof.Rows
theorem sm_of {h : Heap} (x : h.NoSeer) : ∃ o, h.get? sysModules = some o := let ⟨_, ⟨o, _, _, e, _⟩, _⟩ := x.mods; ⟨o, e⟩
theorem MkIn.keep {B : Base} {hE h h' : Heap} {env : Env} {ca : Addr} {fdC : FuncData} {stC : Stmt} {k : KSrc} {ar : Arg} {pr pr' : Pos} {cC PC cL PL : Addr} {v0 : Value} {pk : Option (Addr × Addr)} {used : List (Nat × Nat)} (mi : MkIn B hE h env ca fdC stC k ar pr pr' cC PC cL PL v0 pk used)
    (kk : ∀ b o, h.get? b = some o → h'.get? b = some o) : MkIn B hE h' env ca fdC stC k ar pr pr' cC PC cL PL v0 pk used :=
  { mi with
    fn := mi.fn.keep kk
    wd := mi.wd.keep kk
    kc := mi.kc.keep kk
    hdL := mi.hdL.keeps kk
    tabL := (let ⟨ps, e, r⟩ := mi.tabL; ⟨ps, kk _ _ e, r⟩)
    baL := bi_self mi.baL fun b o zz1 e => kk b o e }

section
variable {prog : Program} {w : World} {p : Program} {loose : List Str} {mean : ExcName → Option Value} {mg mb : Str → Option Value} {s₁ : Shared}
/- law, called on a list of ints -/
theorem law_head {T : Top p loose mean mg mb s₁.heap} {fa a : Addr} {vs : List Value} {ns : List Int} {n : Nat} {b : Bool} {c : ClaimW} {cl : Str → Option Addr} {mean' : ExcName → Option Value} {args : List WData}
    {fd : FuncData} {st : Stmt} {ar : Arg} {ρ₀ ρ₁ : List (Str × Ent)} (fb : FnB (base0 prog w T) fa fd) (isd : IsDef fd st) (ha : fArgs st = ⟨[], [ar], Option.none, [], [], Option.none, []⟩) (lo : LayOf (base0 prog w T) [] (fScope st).names ρ₀)
    (hp : Put ρ₀ ar.arg (.val true (.list (ns.map .int))) ρ₁)
    (hl : s₁.heap.get? a = some { cls := .type "list", data := .seq vs.toArray }) (hI : IntsAre vs ns) (hg : s₁.gens = #[]) (hn : n + 1 ≤ 600)
    (hr : ∀ cls, c.raises args cls = false) (hpo : c.post args (.bool b) args = true)
    (run : ∀ (X : Cx) s', X.B = base0 prog w T → X.T = [] → X.n = n → X.κ = closable (fScope st).names → X.sE = s₁ → X.env.locals = s₁.heap.objs.size → X.env.scope = fScope st → X.env.code = fd.code → Fine X → OkP X [] [] ρ₁ s' →
      wpAny X.M X.A (execs (fBody st) X.env) (fun f s'' => f = .ret (.bool b) ∧ OldK s₁.heap s''.heap ∧ s''.gens = s₁.gens ∧ s''.os = s₁.os) NoE s') :
    wpAny (model prog w) callerA (call (.ref fa) [.ref a]) (fun v s' => GoodWG c cl mean' args s₁ (.ok (.ret v)) s') (fun e s' => GoodWG c cl mean' args s₁ (.error e) s') s₁ := by
  have F0 : Fine (cx0 (base0 prog w T) s₁ (n + 1)) := fine0 rfl hn
  have hpl : s₁.heap.PlainList a vs.toArray := ⟨_, hl⟩
  have hbind : bindArgs fd ⟨[.ref a], []⟩ = pure [(ar.arg, .ref a)] := by
    have := bind_plain (fd := fd) (as := [ar]) (vs := [.ref a]) (isd.params.trans ha) isd.defaults rfl (List.nodup_cons.mpr ⟨List.not_mem_nil, List.nodup_nil⟩)
    rw [this]; rfl
  refine wpAny_call (call_fn2 (B := base0 prog w T) (A := callerA) (n := n) (T := []) (W := []) (ds := [(true, .list (ns.map .int))]) (ρp := []) (ρ₀ := ρ₀) (ρ₁ := ρ₁) F0.room (fun zz1 h => nomatch h) (.refl ..) fb.fn isd.body hbind (isd.closure ▸ CloOk.nil)
    (by rw [isd.scope]; exact lo) (.val hp .nil) (.val (.list hpl List.not_mem_nil (intsAre_reps hI)) .nil) (fun zz1 h => nomatch h) fun env s' F ok z1 z2 z3 z4 => ?_)
  refine wpAny_mono (run _ s' rfl rfl rfl (by rw [isd.scope]) rfl z4 (z1.trans isd.scope) z2 F ok) (fun f s'' h => ?_) fun zz1 zz2 h => h.elim
  obtain ⟨rfl, old, g, o⟩ := h
  exact ⟨.inl ⟨_, _, [], rfl, hr, ReadsW.bool b, hpo, fun zz1 => ⟨List.nodup_nil, fun zz1 hm => (nomatch hm)⟩⟩, old, o, .of_eq (g.trans hg)⟩

end
end Mine


open PySem PySem.W PyProof.Rows PySem.W.X
set_option maxHeartbeats 4000000

namespace Mine
open PySem PySem.Calls PyProof.Rows
theorem fr_of {names : List (Str × NameKind)} {b : Bool} (h : (names.all fun p => !(p.2 == NameKind.free) || (b && p.1 == Str.ofString "mycmp")) = true) : ∀ x, (x, NameKind.free) ∈ names → b = true ∧ x = "mycmp" := fun x hx => by
  rw [List.all_eq_true] at h
  have := h _ hx
  simp only [beq_self_eq_true, Bool.not_true, Bool.false_or, Bool.and_eq_true, beq_iff_eq] at this
  exact this
noncomputable def retPos : Stmt → Pos × Pos
  | .Return (some (.Name _ p)) q => (p, q)
  | _ => (default, default)
noncomputable def argOf (st : Stmt) (i : Nat) : Arg := (fArgs st).args.getD i ⟨Str.empty, none, default⟩
/- where the one line of a comparing method stands -/
structure CPos where
  kk : Nat
  p1 : Pos
  p2 : Pos
  p3 : Pos
  p4 : Pos
  p5 : Pos
  p6 : Pos
  p7 : Pos
  p8 : Pos
  p9 : Pos
noncomputable def cPos : Stmt → CPos
  | .Return (some (.Compare (.Call (.Name _ p1) [.Attribute (.Name _ p2) _ p3, .Attribute (.Name _ p4) _ p5] [] p6) _ [.Constant _ kk p7] p8)) p9 => ⟨kk, p1, p2, p3, p4, p5, p6, p7, p8, p9⟩
  | _ => ⟨0, default, default, default, default, default, default, default, default, default⟩
structure IPos where
  p1 : Pos
  p2 : Pos
  p3 : Pos
  p4 : Pos
noncomputable def iPos : Stmt → IPos
  | .Assign [.Attribute (.Name _ p1) _ p2] (.Name _ p3) p4 => ⟨p1, p2, p3, p4⟩
  | _ => ⟨default, default, default, default⟩
noncomputable def st0 (st : Stmt) : Stmt := (fBody st).getD 0 (.Pass default)
noncomputable def st1 (st : Stmt) : Stmt := (fBody st).getD 1 (.Pass default)
noncomputable def lamP : Stmt → Arguments
  | .Assign _ (.Call _ [.Lambda p _ _ _] _ _) _ => p
  | _ => ⟨[], [], Option.none, [], [], Option.none, []⟩
noncomputable def lamB : Stmt → Expr
  | .Assign _ (.Call _ [.Lambda _ b _ _] _ _) _ => b
  | _ => .Constant .none 0 default
noncomputable def lamS : Stmt → Scope
  | .Assign _ (.Call _ [.Lambda _ _ s _] _ _) _ => s
  | _ => ⟨.function, [], false, false, []⟩
/- the lambda that was handed to cmp_to_key by the statement st -/
noncomputable def LamIs (B : Base) (v : Value) (st : Stmt) : Prop := ∃ a qual pm c' ctv, v = .ref a ∧ FnB B a (kla_fn "<lambda>" qual (lamP st) (lamB st) (lamS st) [] pm (.ref c') ctv)
theorem LamIs.keep {X : Cx} {W : List Addr} {v : Value} {st : Stmt} (x : LamIs X.B v st) : KeepOk X W v := by
  obtain ⟨a, qual, pm, c', ctv, rfl, fb⟩ := x
  exact keepOk_fn fb
end Mine


open PySem PySem.W PyProof.Rows PySem.W.X
set_option maxHeartbeats 4000000

namespace Mine
open PySem PySem.Calls PyProof.Rows Builtin
/- ### keys of two classes -/
section
variable {X : Cx} {W : List Addr} {c c2 : KC} {k k2 : KSrc}
end
end Mine


open PySem PySem.W PyProof.Rows PySem.W.X
set_option maxHeartbeats 4000000
set_option pp.deepTerms false
set_option pp.deepTerms.threshold 3

namespace Mine
open PySem PySem.Calls PyProof.Rows
theorem MkIn.base {B B' : Base} {hE h : Heap} {env : Env} {ca : Addr} {fdC : FuncData} {stC : Stmt} {k : KSrc} {ar : Arg} {pr pr' : Pos} {cC PC cL PL : Addr} {v0 : Value} {pk : Option (Addr × Addr)} {used : List (Nat × Nat)} (mi : MkIn B hE h env ca fdC stC k ar pr pr' cC PC cL PL v0 pk used)
    (e1 : B'.mg = B.mg) (e2 : B'.mb = B.mb) : MkIn B' hE h env ca fdC stC k ar pr pr' cC PC cL PL v0 pk used :=
  { glob := by rw [e1]; exact mi.glob, fn := mi.fn, isd := mi.isd, cs := mi.cs, ko := mi.ko, qn := mi.qn, code := mi.code, wd := by rw [e1, e2]; exact mi.wd, kc := mi.kc, pkE := mi.pkE, ecode := mi.ecode, hdL := mi.hdL, tabL := mi.tabL, baL := by rw [e1]; exact mi.baL, gPL := mi.gPL, sPL := mi.sPL, nP := mi.nP, nPK := mi.nPK, tL := mi.tL, tC := mi.tC, gE := mi.gE, bE := mi.bE, cE := mi.cE }
section
variable {T : List Addr} {h h' : Heap}
theorem slot_out (nr : ∀ a ∈ T, ∃ o, h.get? a = some o ∧ SlotObj o) {a : Addr} {o : Obj} (e : h.get? a = some o) (hd : (∃ vs, o.data = .fields vs) ∨ (∃ fd, o.data = .func fd) ∨ o.data = .plain) : a ∉ T := fun z => by
  obtain ⟨o', e', n⟩ := nr a z
  rw [e] at e'; cases e'
  rcases hd with ⟨vs, d⟩ | ⟨fd, d⟩ | d
  · exact n.nf _ d
  · exact n.nfn _ d
  · exact n.np d
theorem codeRec_sl (x : Ext T h h') (nr : ∀ a ∈ T, ∃ o, h.get? a = some o ∧ SlotObj o) {c : Value} {q : Str} (y : h.CodeRec c q) : h'.CodeRec c q :=
  codeRec_ext y x fun a ha => let ⟨o, e, n⟩ := nr a ha; ⟨o, e, n.nf⟩
theorem codeHd_sl (x : Ext T h h') (nr : ∀ a ∈ T, ∃ o, h.get? a = some o ∧ SlotObj o) {c P : Addr} (y : CodeHd h c P) : CodeHd h' c P := by
  obtain ⟨o, vs, file, tf, flags, tg, inF, text, tt, e, ec, ed, r⟩ := y
  exact ⟨o, vs, file, tf, flags, tg, inF, text, tt, x.keep _ _ (slot_out nr e (.inl ⟨_, ed⟩)) e, ec, ed, r⟩
theorem tab_sl (x : Ext T h h') (nr : ∀ a ∈ T, ∃ o, h.get? a = some o ∧ SlotObj o) {P : Addr} {ps : Array Value} (e : h.get? P = some (tabObj ps)) : h'.get? P = some (tabObj ps) :=
  x.keep _ _ (slot_out nr e (.inl ⟨_, rfl⟩)) e
theorem ba_sl (x : Ext T h h') (nr : ∀ a ∈ T, ∃ o, h.get? a = some o ∧ SlotObj o) {mg : Str → Option Value} {P : Addr} (y : h.BuiltinsAt mg P) : h'.BuiltinsAt mg P :=
  let ⟨bm, o, e, n1, n2, n3, g, c, r, d⟩ := y; ⟨bm, o, e, n1, n2, n3, x.keep _ _ (slot_out nr g (.inr (.inr d))) g, c, r, d⟩
theorem kCode_sl (x : Ext T h h') (nr : ∀ a ∈ T, ∃ o, h.get? a = some o ∧ SlotObj o) {P : Addr} {pos : Pos} {qual : Str} {qK : Nat → Nat → Str} {pk : Option (Addr × Addr)} (y : KCode h P pos qual qK pk) : KCode h' P pos qual qK pk := by
  obtain ⟨qs, e1, t1, r⟩ := y
  refine ⟨qs, tab_sl x nr e1, t1, ?_⟩
  cases pk with
  | none => exact r
  | some z =>
    obtain ⟨r1, r2, r3, ⟨ps, e2, t2, hq⟩, r5⟩ := r
    exact ⟨r1, codeRec_sl x nr r2, codeHd_sl x nr r3, ⟨ps, tab_sl x nr e2, t2, fun p cv z => let ⟨c', a, b, c⟩ := hq p cv z; ⟨c', a, b, codeRec_sl x nr c⟩⟩, r5⟩
theorem MkIn.ext {B : Base} {hE : Heap} {env : Env} {ca : Addr} {fdC : FuncData} {stC : Stmt} {k : KSrc} {ar : Arg} {pr pr' : Pos} {cC PC cL PL : Addr} {v0 : Value} {pk : Option (Addr × Addr)} {used : List (Nat × Nat)} (mi : MkIn B hE h env ca fdC stC k ar pr pr' cC PC cL PL v0 pk used)
    (x : Ext T h h') (nr : ∀ a ∈ T, ∃ o, h.get? a = some o ∧ SlotObj o) (fr : ∀ a ∈ T, hE.get? a = none) : MkIn B hE h' env ca fdC stC k ar pr pr' cC PC cL PL v0 pk used := by
  have out : ∀ {a}, (∃ o, hE.get? a = some o) → a ∉ T := fun ⟨o, e⟩ z => by rw [fr _ z] at e; cases e
  exact { mi with
    fn := { mi.fn with obj := (let ⟨o, e, d⟩ := mi.fn.obj; ⟨o, x.keep _ _ (slot_out nr e (.inr (.inl ⟨_, d⟩))) e, d⟩), code := codeRec_sl x nr mi.fn.code }
    wd := { mi.wd with g := ns_ext x mi.wd.g (out mi.gE), b := ns_ext x mi.wd.b (out mi.bE), ba := ba_sl x nr mi.wd.ba, sm := (let ⟨o, e⟩ := mi.wd.sm; x.there _ _ e), lim := (let ⟨mc, n, e⟩ := mi.wd.lim; ⟨mc, ns_ext x n (out mi.cE), e⟩), op := (let ⟨mc, n, e⟩ := mi.wd.op; ⟨mc, ns_ext x n (out mi.cE), e⟩), hd := codeHd_sl x nr mi.wd.hd }
    kc := kCode_sl x nr mi.kc
    hdL := codeHd_sl x nr mi.hdL
    tabL := (let ⟨ps, e, r⟩ := mi.tabL; ⟨ps, tab_sl x nr e, r⟩)
    baL := ba_sl x nr mi.baL }
end
section
variable {prog : Program} {w : World} {p : Program} {loose : List Str} {mean : ExcName → Option Value} {mg mb : Str → Option Value} {s₁ : Shared}
end
end Mine


open PySem PySem.W PyProof.Rows PySem.W.X
set_option maxHeartbeats 4000000
set_option pp.deepTerms false
set_option pp.deepTerms.threshold 3

namespace Mine
open PySem PySem.Calls PyProof.Rows
section
variable {X : Cx} {W : List Addr} {ρ : List (Str × Ent)} {c : KC} {k : KSrc}
theorem os_lt {h : Heap} {x : Addr} {ox : Obj} (KI : c.In k h) (ex : h.get? x = some ox) (cx : ox.cls = .ref c.C) : h.OwnSpecial x c.C c.f1 "object" "__lt__" := by
  obtain ⟨k0, k2, k3, eC⟩ := KI.1.cls
  obtain ⟨v0, qual, sm, tq, tf, tm, fl, sl, st, hN⟩ := KI.1.ns
  obtain ⟨c', ctv, doc, ef, _⟩ := KI.1.lt
  exact ⟨ox, _, "K", "cmp_to_key.<locals>.K", c.N, [.type "object"], _, false, ["obj"], [], false, none, none, k0, none, k2, k3, some (.bool false), "object.__new__", _, some (.builtin "object.__lt__"), ex, cx, eC, hN, by kernel_rfl, ef, rfl, by rw [mroOf_type]; kernel_rfl, by kernel_rfl⟩
/- keys of a class asked by the sort -/
theorem key_ask {s : Shared} {u v : Value} {a b : D} {r : Bool} (F : Fine X) (ok : Ok X W ρ s) (K : KIn X.B c k) (hc : CallV X W (.ref c.f1) [.key c.C a, .key c.C b] .f (.bool r)) (ra : Rep W s.heap u (.key c.C a)) (rb : Rep W s.heap v (.key c.C b)) :
    wpAny X.M X.A (keyLt' oneType' u v) (fun z s'' => z = r ∧ SExt [] s s'') NoE s := by
  have KI := K _ (ok.base F)
  have call := hc s ρ [u, v] F ok (.cons (Rep.toT ra) (.cons (Rep.toT rb) .nil))
  obtain ⟨x, u', rfl, ⟨ox, ex, cx, _⟩, _⟩ := rep_key (Rep.toT ra)
  obtain ⟨hh, g, d, t, os⟩ := s
  have OS := os_lt KI ex cx
  rw [keyLt'_oneType, oneLt'_eq]
  simp only [if_true]
  refine wpAny_bind (wpAny_cRoomFor (by have := F.uni; (first | lia | omega)) ?_)
  refine wpAny_bind (wpAny_callSpecialIfBound?_own OS (wpAny_mono call (fun z s' h => ?_) fun zz1 zz2 e => e))
  obtain ⟨k1, p, _⟩ := h
  have p : Rep W s'.heap z (.bool r) := p
  cases p
  exact wpAny_truthy_bool ⟨rfl, k1⟩
theorem keyLt_keys {ds : List D} {lt : Nat → Nat → Bool} (K : KIn X.B c k)
    (hc : ∀ N i j a b, ds[i]? = some a → ds[j]? = some b → CallV X.in2 (N ++ W) (.ref c.f1) [.key c.C a, .key c.C b] .f (.bool (lt i j))) : KeyLt X W oneType' (ds.map fun d => .key c.C d) lt where
  kind := fun N s vs ρ F ok r h2 => by
    refine kas_kind (T := .ref c.C) h2 (fun v hv => ?_) (by rfl) (by simp) ⟨rfl, .refl _ _⟩
    obtain ⟨i, hi, e⟩ := List.getElem_of_mem hv
    have hl := r.length
    rw [List.length_map] at hl
    obtain ⟨v', e', rv⟩ := r.get (i := i) (d := .key c.C ds[i]) (by rw [List.getElem?_map, List.getElem?_eq_getElem (by (first | lia | omega))]; rfl)
    rw [List.getElem?_eq_getElem hi, e] at e'
    cases e'
    obtain ⟨x, u', rfl, ⟨ox, ex, cx, _⟩, _⟩ := rep_key (Rep.toT rv)
    exact cx ▸ (Looks.ld ex).andThen .now
  ask := fun N s u v a b i j ρ F ok ea eb ra rb => by
    rw [List.getElem?_map] at ea eb
    cases qa : ds[i]? with
    | none => rw [qa] at ea; cases ea
    | some a' =>
      cases qb : ds[j]? with
      | none => rw [qb] at eb; cases eb
      | some b' =>
        rw [qa] at ea; rw [qb] at eb
        cases ea; cases eb
        exact key_ask (X := X.in2) F ok K (hc N i j a' b' qa qb) ra rb

/- sorted(e, key=ke): what follows the key's expression -/
theorem sorted_kw {s : Shared} {e ke : Expr} {p1 kp pos : Pos} {d : D} {Q : Value → Shared → Prop} (F : Fine X) (ok : Ok X W ρ s) (hg : (Str.ofString "sorted", Ent.gl (.builtin "sorted")) ∈ ρ) (he : Ev X W ρ .s e d) (hns : starEach [e] X.env = [(false, eval e X.env)])
    (h : ∀ v s₁, SExt [] s s₁ → Rep W s₁.heap v d → wpAny X.M X.A (eval ke X.env) (fun f s₂ => wpAny X.M X.A (call (.builtin "sorted") [v] [(Str.ofString "key", f)]) Q NoE s₂) NoE s₁) :
    wpAny X.M X.A (eval (.Call (.Name "sorted" p1) [e] [⟨some "key", ke, kp⟩] pos) X.env) Q NoE s := by
  show wpAny X.M X.A (eval (.Name "sorted" p1) X.env >>= fun v => callWith pos v [] (backTo pos (starEach [e] X.env)) (backToKw pos (keywordEach [⟨some "key", ke, kp⟩] X.env))) _ _ s
  refine wpAny_bind (wpAny_mono (ev_gl F hg (by decide +kernel) s ok) (fun v s₁ h₁ => ?_) fun zz1 zz2 x => x)
  have r : Rep W s₁.heap v (.val (.builtin "sorted")) := h₁.2
  cases r
  refine callWith_kw ?_ (by rw [hns]; rfl) (by rw [hns]; rfl) (by rfl) (by rfl)
  refine wpAny_items_cons (wpAny_mono (he s₁ (ok.mono h₁.1)) (fun v s₂ h₂ => wpAny_items_nil (kws_cons ?_)) fun zz1 zz2 x => x) hns
  exact wpAny_mono (h v s₂ (h₁.1.trans h₂.1) h₂.2) (fun f s₃ h₃ => kws_nil h₃) fun zz1 zz2 x => x
end
end Mine


open PySem PySem.W PyProof.Rows PySem.W.X
set_option maxHeartbeats 4000000
set_option pp.deepTerms false
set_option pp.deepTerms.threshold 3

namespace Mine
open PySem PySem.Calls PyProof.Rows

/- law's own frame, some way on -/
structure LFr (X : Cx) (s₁ : Shared) (S : List Addr) (ca : Addr) (fdC : FuncData) (stC : Stmt) (k : KSrc) (ar : Arg) (pr pr' : Pos) (cC PC cL PL : Addr) (v0 : Value) (pk : Option (Addr × Addr)) (used : List (Nat × Nat)) : Prop where
  at_ : ∀ s, SExt X.T X.sE s → MkIn X.B s₁.heap s.heap X.env ca fdC stC k ar pr pr' cC PC cL PL v0 pk used ∧ OldK s₁.heap s.heap
  fr : ∀ a ∈ S, s₁.heap.get? a = none
  g : X.sE.gens = s₁.gens
  o : X.sE.os = s₁.os
noncomputable def LawR (b : Bool) (s₁ : Shared) : Rtn := fun v s' => v = .bool b ∧ OldK s₁.heap s'.heap ∧ s'.gens = s₁.gens ∧ s'.os = s₁.os

section
variable {X : Cx} {ρ : List (Str × Ent)} {s₁ : Shared} {ca : Addr} {fdC : FuncData} {stC : Stmt} {k : KSrc} {ar : Arg} {pr pr' : Pos} {cC PC cL PL : Addr} {v0 : Value} {pk : Option (Addr × Addr)} {used : List (Nat × Nat)}
/- the new base behind a call of cmp_to_key -/
theorem mk_re {s s1 : Shared} {fv : Value} {pl : Str × Ent} {cK PK C N dsc f0 f1 f2 f3 f4 f5 cc : Addr} {h1 : Heap} (F : Fine X) (ok : Ok X [] ρ s) (mi : MkIn X.B s₁.heap s.heap X.env ca fdC stC k ar pr pr' cC PC cL PL v0 pk used) (fr : ∀ a ∈ slotsOf X.env ρ, s₁.heap.get? a = none) (hv : ∀ p ∈ ρ, p.2.simple = true)
    (hpl : pl ∈ ρ) (hkl : X.env.kindOf pl.1 = some .local) (tk : TKeep s.heap s1.heap) (th1 : ∀ b o, s.heap.get? b = some o → ∃ o', h1.get? b = some o') (cr : CmpRes k h1 s1.heap fv PC cK PK C N dsc f0 f1 f2 f3 f4 f5 cc pk ((X.B.mg "__name__").getD .none)) :
    ∃ B' : Base, Re X ρ s s1 B' ∧ KS B' ⟨C, N, dsc, f0, f1, f2, f3, f4, f5, cc, (X.B.mg "__name__").getD .none, fv⟩ k ∧ Fine ⟨B', X.A, X.env, s1, X.n, slotsOf X.env ρ, X.κ⟩ ∧ Ok ⟨B', X.A, X.env, s1, X.n, slotsOf X.env ρ, X.κ⟩ [] ρ s1 := by
  have sl := slot_at ok (ns_loc ok hpl hkl)
  obtain ⟨B', e1, e2, e3, e4, e5, e6, F', ok'⟩ := rebase2 F ok fr tk hv mi.gE mi.bE mi.cE
  have re : Re X ρ s s1 B' := ⟨e1, e2, e3, e4, e5, e6, tk, ok.base F, sl⟩
  refine ⟨B', re, ⟨by rw [e5]; exact ⟨cr.cls, cr.cell⟩, fun a ha z => ?_, re.nr⟩, F', ok'⟩
  have q := cr.fr a ha
  rw [e6] at z
  obtain ⟨o, e, _⟩ := sl a z
  obtain ⟨o', e'⟩ := th1 _ _ e
  rw [q] at e'; cases e'
/- the frame's facts over the new base -/
theorem LFr.re {s s1 : Shared} {B' : Base} {pk' : Option (Addr × Addr)} {used' : List (Nat × Nat)} (L : LFr X s₁ (slotsOf X.env ρ) ca fdC stC k ar pr pr' cC PC cL PL v0 pk used) (ok : Ok X [] ρ s) (re : Re X ρ s s1 B') (mi : MkIn X.B s₁.heap s1.heap X.env ca fdC stC k ar pr pr' cC PC cL PL v0 pk' used') (old : OldK s₁.heap s1.heap) (gg : s1.gens = s.gens) (oo : s1.os = s.os) :
    LFr ⟨B', X.A, X.env, s1, X.n, slotsOf X.env ρ, X.κ⟩ s₁ (slotsOf X.env ρ) ca fdC stC k ar pr pr' cC PC cL PL v0 pk' used' := by
  refine ⟨fun s' x => ?_, L.fr, gg.trans (ok.ext.gens.trans L.g), oo.trans (ok.ext.os.trans L.o)⟩
  have nr : ∀ a ∈ slotsOf X.env ρ, ∃ o, s1.heap.get? a = some o ∧ SlotObj o := by
    have := re.nr
    rw [re.T, re.h₁] at this
    exact this
  refine ⟨?_, x.ext.old _ L.fr old⟩
  exact (MkIn.base mi re.mg re.mb).ext x.ext nr L.fr
theorem LFr.ret {b : Bool} {S : List Addr} (L : LFr X s₁ S ca fdC stC k ar pr pr' cC PC cL PL v0 pk used) {rest : List Stmt} (h : Blk X [] ρ rest (fun zz1 zz2 => False) (Ret X [] .f (.bool b))) : Blk X [] ρ rest (fun zz1 zz2 => False) (LawR b s₁) := fun P s ok => by
  refine wpAny_mono (h P s ok) (fun f s' z => ?_) fun zz1 zz2 z => z
  cases f with
  | ret v =>
    have z' : Ret X [] .f (.bool b) v s' := z
    obtain ⟨k1, r, _⟩ := z'
    cases r
    exact ⟨rfl, (L.at_ _ k1).2, k1.gens.trans L.g, k1.os.trans L.o⟩
  | _ => exact z
end
end Mine


open PySem PySem.W PyProof.Rows PySem.W.X
set_option maxHeartbeats 4000000
set_option pp.deepTerms false
set_option pp.deepTerms.threshold 3

namespace Mine
open PySem PySem.Calls PyProof.Rows

section
variable {X : Cx} {ρ : List (Str × Ent)} {s₁ : Shared} {ca : Addr} {fdC : FuncData} {stC : Stmt} {k : KSrc} {ar : Arg} {pr pr' : Pos} {cC PC cL PL : Addr} {v0 : Value} {pk : Option (Addr × Addr)} {used : List (Nat × Nat)}
end
end Mine


open PySem PySem.W PyProof.Rows PySem.W.X
set_option maxHeartbeats 4000000
set_option pp.deepTerms false
set_option pp.deepTerms.threshold 3

namespace Mine
open PySem PySem.Calls PyProof.Rows
section
variable {prog : Program} {w : World} {p : Program} {loose : List Str} {mean : ExcName → Option Value} {mg mb : Str → Option Value} {s₁ : Shared}
/- a law that calls cmp_to_key some way on -/
theorem law_mid {T : Top p loose mean mg mb s₁.heap} {K : Frag} (KX : K.In s₁.heap) {fa aC a : Addr} {vs : List Value} {ns : List Int} {n : Nat} {b : Bool} {c : ClaimW} {cl : Str → Option Addr} {mean' : ExcName → Option Value} {args : List WData}
    {stL stC : Stmt} {k : KSrc} {ar arL : Arg} {pr pr' : Pos} {cC PC cL PL : Addr} {s0 : Str} {t0 : Tok} {dL : DefRec} {ρ₀ ρ₁ : List (Str × Ent)}
    (haL : fArgs stL = ⟨[], [arL], Option.none, [], [], Option.none, []⟩) (lo : LayOf (base0 prog w T) [] (fScope stL).names ρ₀) (hp : Put ρ₀ arL.arg (.val true (.list (ns.map .int))) ρ₁)
    (hmL : recAt stL ∈ recsOf p) (hnL : (recAt stL).name = "law") (hbL : (recAt stL).body = fBody stL) (hpL : (recAt stL).params = fArgs stL) (hsL : (recAt stL).scope = fScope stL)
    (hkL : (fScope stL).kind = .function) (hcL : (fScope stL).isCoroutine = false) (hgL : (fScope stL).isGenerator = false) (ndL : ((fScope stL).names.map (·.1)).Nodup)
    (cs : CmpSt stC k ar pr pr') (ko : k.Ok) (hm : recAt stC ∈ recsOf p) (hnm : (recAt stC).name = "cmp_to_key") (hb : (recAt stC).body = fBody stC) (hpC : (recAt stC).params = fArgs stC) (hs : (recAt stC).scope = fScope stC)
    (hk : (fScope stC).kind = .function) (hc : (fScope stC).isCoroutine = false) (hg : (fScope stC).isGenerator = false) (nd : ((fScope stC).names.map (·.1)).Nodup)
    (rC : (recsOf p).find? (fun e => e.name == ("cmp_to_key" : Str)) = some (recAt stC)) (tC : tabIn K "cmp_to_key" = some (cC, PC)) (rL : (recsOf p).find? (fun e => e.name == ("law" : Str)) = some dL) (tL : tabIn K "law" = some (cL, PL))
    (q1 : nsIn K cStatics "thirdparty.any" = some none) (q2 : nsIn K mainGlobals "__name__" = some (some (.str s0 t0))) (q3 : ∃ o, s₁.heap.get? sysModules = some o) (q4 : nsIn K mainGlobals "object" = some none)
    (n1 : mainGlobals ≠ PC) (n2 : cStatics ≠ PC) (n3 : mainGlobals ≠ PL) (n4 : cStatics ≠ PL) (n5 : PL ≠ PC)
    (efa : mg "law" = some (.ref fa)) (eaC : mg "cmp_to_key" = some (.ref aC))
    (hl : s₁.heap.get? a = some { cls := .type "list", data := .seq vs.toArray }) (hI : IntsAre vs ns) (hg0 : s₁.gens = #[]) (hn : n + 1 ≤ 600)
    (hr : ∀ cls, c.raises args cls = false) (hpo : c.post args (.bool b) args = true)
    (run : ∀ (X : Cx) fdC v0, X.B = base0 prog w T → X.T = [] → X.n = n → X.κ = closable (fScope stL).names → X.env.scope = fScope stL → Fine X →
      LFr X s₁ (slotsOf X.env ρ₁) aC fdC stC k ar pr pr' cC PC cL PL v0 none [] → Blk X [] ρ₁ (fBody stL) (fun zz1 zz2 => False) (LawR b s₁)) :
    wpAny (model prog w) callerA (call (.ref fa) [.ref a]) (fun v s' => GoodWG c cl mean' args s₁ (.ok (.ret v)) s') (fun e s' => GoodWG c cl mean' args s₁ (.error e) s') s₁ := by
  obtain ⟨a2, o, pm, code, doc, e, g, dt, cr⟩ := T.fn _ hmL
  rw [hbL, hpL, hsL] at dt
  rw [hnL] at e
  have ea : fa = a2 := by have := efa.symm.trans e; cases this; rfl
  subst ea
  have cd := law_code KX T.g tL e g dt
  have fb : FnB (base0 prog w T) fa (docDef (recAt stL).name (fArgs stL) (fBody stL) (fScope stL) pm code doc) := ⟨⟨⟨o, g, dt⟩, cr, rfl, rfl, hkL, hcL, hgL, ndL⟩, List.not_mem_nil, fun zz1 zz2 => List.not_mem_nil⟩
  refine law_head (fd := docDef (recAt stL).name (fArgs stL) (fBody stL) (fScope stL) pm code doc) (st := stL) (n := n) (b := b) fb ⟨rfl, rfl, rfl, rfl, rfl⟩ haL lo hp hl hI hg0 hn hr hpo fun X s' hB hT hn' hκ hE hloc hsc hcode F ok => ?_
  obtain ⟨ca, fdC, fbC, mi⟩ := mk_start (prog := prog) (w := w) T KX cs ko hm hnm hb hpC hs hk hc hg nd rC tC rL tL q1 q2 q3 q4 n1 n2 n3 n4 n5 X.env (hcode.trans cd)
  have eca : ca = aC := by
    have e1 : mg "cmp_to_key" = some (.ref ca) := mi.glob
    rw [eaC] at e1; cases e1; rfl
  subst eca
  rw [← hB] at mi
  have fr : ∀ a ∈ slotsOf X.env ρ₁, s₁.heap.get? a = none := by
    have := slot_new ok.ok hT (by rw [hE, hloc]; exact get_size _)
    rw [hE] at this; exact this
  have L : LFr X s₁ (slotsOf X.env ρ₁) ca fdC stC k ar pr pr' cC PC cL PL _ none [] := ⟨fun s x => by
    rw [hT, hE] at x
    exact ⟨mi.keep x.ext.strict, .of_keep x.ext.strict⟩, fr, by rw [hE], by rw [hE]⟩
  refine wpAny_mono (run X fdC _ hB hT hn' hκ hsc F L [] s' ok) (fun fl s'' h => ?_) fun zz1 zz2 h => h.elim
  cases fl with
  | next => exact h.elim
  | ret v =>
    have h' : LawR b s₁ v s'' := h
    obtain ⟨rfl, a, b, c⟩ := h'
    exact ⟨rfl, a, b, c⟩
  | _ => exact h.elim
end
end Mine


open PySem PySem.W PyProof.Rows PySem.W.X
set_option maxHeartbeats 4000000
set_option pp.deepTerms false
set_option pp.deepTerms.threshold 3

namespace Mine
open PySem PySem.Calls PyProof.Rows
/- a lambda made in law's own frame -/
theorem lam_mk {X : Cx} {hE : Heap} {ρ : List (Str × Ent)} {s : Shared} {ca : Addr} {fdC : FuncData} {stC : Stmt} {k : KSrc} {ar : Arg} {pr pr' : Pos} {cC PC cL PL : Addr} {v0 : Value} {pk : Option (Addr × Addr)} {used : List (Nat × Nat)}
    {params : Arguments} {body : Expr} {scope : Scope} {pos : Pos} {clos : List (Str × Addr)} {Q : Value → Shared → Prop}
    (F : Fine X) (ok : Ok X [] ρ s) (mi : MkIn X.B hE s.heap X.env ca fdC stC k ar pr pr' cC PC cL PL v0 pk used) (old : OldK hE s.heap)
    (hdef : defaultsOf params X.env = ([], [])) (hcl : closureFor scope X.env = pure clos) (hu : (pos.line, pos.col) ∉ used)
    (hq : ∀ lam s', TKeep s.heap s'.heap → OldK hE s'.heap → s.heap.get? lam = none → LamAt s'.heap lam (X.env.qual ++ "<lambda>") params body scope clos →
      MkIn X.B hE s'.heap X.env ca fdC stC k ar pr pr' cC PC cL PL v0 pk ((pos.line, pos.col) :: used) → s'.gens = s.gens → s'.os = s.os → Q (.ref lam) s') :
    wpAny X.M X.A (eval (.Lambda params body scope pos) X.env) Q NoE s := by
  obtain ⟨h, g, d, t, os⟩ := s
  refine lam_eval hdef hcl F.globals (ok.nsg F) mi.ecode mi.hdL mi.tabL hu mi.gPL mi.baL fun f h1 t1 tk1 x1 gr1 fr1 la1 tab1 => ?_
  obtain ⟨psL, eL, tL, _⟩ := id mi.tabL
  have th1 := there_but x1 (let ⟨ps, more, _, e⟩ := gr1; ⟨_, e⟩)
  have kc1 := kCode_tab mi.kc x1 mi.nP.symm eL tL mi.nPK
  obtain ⟨cL0, psL0, tL0⟩ := mi.tL
  have old1 : OldK hE h1 := oldK_grown (T := []) old (fun zz1 h => nomatch h) tL0 gr1 (fun b o e1 zz1 e2 => x1 _ _ e1 e2) mi.sPL.symm
  exact hq f ⟨h1, g, d, t1, os⟩ tk1 old1 fr1 la1
    { mi with
      fn := tk1.fnIn mi.fn
      wd := mi.wd.tab tk1 th1
      kc := kc1
      hdL := tk1.codeHd mi.hdL
      tabL := tab1
      baL := (tk1.bi mi.baL) } rfl rfl
/- from one base to the next -/
structure Mv2 (X X' : Cx) (S : List Addr) : Prop where
  n : X'.n = X.n
  κ : X'.κ = X.κ
  env : X'.env = X.env
  T : X'.B.T = S
  glob : ∀ x v, GlobIs X.B x v → GlobIs X'.B x v
  defs : ∀ a st, DefAt X.B a st → DefAt X'.B a st
  fnb : ∀ a fd, FnB X.B a fd → FnB X'.B a fd
  ks : ∀ c k, KS X.B c k → (∀ a ∈ S, a ∈ X.B.T) → KS X'.B c k
  op : ∃ mc, X'.B.h₁.Ns cStatics mc ∧ mc "thirdparty.any" = none
  h : X'.B.h₁ = X'.sE.heap
section
variable {X : Cx} {ρ : List (Str × Ent)} {s₁ : Shared} {ca : Addr} {fdC : FuncData} {stC : Stmt} {k : KSrc} {ar : Arg} {pr pr' : Pos} {cC PC cL PL : Addr} {v0 : Value} {pk : Option (Addr × Addr)} {used : List (Nat × Nat)}
theorem Re.mv2 {s s1 : Shared} {B' : Base} {T : List Addr} (re : Re X ρ s s1 B') (op : ∃ mc, s1.heap.Ns cStatics mc ∧ mc "thirdparty.any" = none) : Mv2 X ⟨B', X.A, X.env, s1, X.n, T, X.κ⟩ (slotsOf X.env ρ) :=
  ⟨rfl, rfl, rfl, re.T, fun x v => re.glob, fun a st => re.defAt, fun a fd => re.fnB, fun c k x h => re.ks x h, by (obtain ⟨mc, n, e⟩ := op; exact ⟨mc, by show B'.h₁.Ns _ _; rw [re.h₁]; exact n, e⟩), re.h₁⟩
/- the new base behind a lambda -/
theorem lam_re {s s1 : Shared} {lam : Addr} {pl : Str × Ent} {qual : Str} {params : Arguments} {body : Expr} {scope : Scope} {clos : List (Str × Addr)} (F : Fine X) (ok : Ok X [] ρ s) (mi : MkIn X.B s₁.heap s.heap X.env ca fdC stC k ar pr pr' cC PC cL PL v0 pk used) (fr : ∀ a ∈ slotsOf X.env ρ, s₁.heap.get? a = none) (hv : ∀ p ∈ ρ, p.2.simple = true)
    (hpl : pl ∈ ρ) (hkl : X.env.kindOf pl.1 = some .local) (tk : TKeep s.heap s1.heap) (frl : s.heap.get? lam = none) (la : LamAt s1.heap lam qual params body scope clos) (sk : scope.kind = .function) (sc : scope.isCoroutine = false) (sg : scope.isGenerator = false) (snd : (scope.names.map (·.1)).Nodup) :
    ∃ (B' : Base) (pm : Value) (c' : Addr) (ctv : Value), Re X ρ s s1 B' ∧ FnB B' lam (kla_fn "<lambda>" qual params body scope clos pm (.ref c') ctv) ∧ Fine ⟨B', X.A, X.env, s1, X.n, slotsOf X.env ρ, X.κ⟩ ∧ Ok ⟨B', X.A, X.env, s1, X.n, slotsOf X.env ρ, X.κ⟩ [] ρ s1 := by
  have sl := slot_at ok (ns_loc ok hpl hkl)
  obtain ⟨B', e1, e2, e3, e4, e5, e6, F', ok'⟩ := rebase2 F ok fr tk hv mi.gE mi.bE mi.cE
  have re : Re X ρ s s1 B' := ⟨e1, e2, e3, e4, e5, e6, tk, ok.base F, sl⟩
  have hlam : lam ∉ B'.T := fun z => by
    rw [re.T] at z
    obtain ⟨o, e, _⟩ := re.sl _ z
    rw [frl] at e; cases e
  rw [← re.h₁] at la
  obtain ⟨pm, c', ctv, fb⟩ := lam_fnB la hlam (fun a ha => let ⟨o, e, n⟩ := re.nr a ha; ⟨o, e, n.nf⟩) sk sc sg snd
  exact ⟨B', pm, c', ctv, re, fb, F', ok'⟩

/- x = cmp_to_key(lambda ..), some way on -/
theorem blk_mkL {x : Str} {f : Ent → List (Str × Ent)} {rest : List Stmt} {b : Bool} {pl : Str × Ent} {p p1 p2 p3 pos : Pos} {params : Arguments} {body : Expr} {scope : Scope} {clos : List (Str × Addr)}
    (F : Fine X) (hn : 1 ≤ X.n) (L : LFr X s₁ (slotsOf X.env ρ) ca fdC stC k ar pr pr' cC PC cL PL v0 pk used) (hv : ∀ p ∈ ρ, p.2.simple = true) (hpl : pl ∈ ρ) (hkl : X.env.kindOf pl.1 = some .local)
    (hgc : (Str.ofString "cmp_to_key", Ent.gl (.ref ca)) ∈ ρ)
    (hdef : defaultsOf params X.env = ([], [])) (hcl : closureFor scope X.env = pure clos) (hu : (pos.line, pos.col) ∉ used) (sk : scope.kind = .function) (sc : scope.isCoroutine = false) (sg : scope.isGenerator = false) (snd : (scope.names.map (·.1)).Nodup)
    (hp : PutF ρ x f) (hs : ∀ env, swapsWith (.Call (.Name "cmp_to_key" p1) [.Lambda params body scope pos] [] p2) (some (.Name x p)) p3.line env = pure false)
    (cont : ∀ (X' : Cx) (c : KC) lam pm c' ctv cK PK, Mv2 X X' (slotsOf X.env ρ) → Ok X' [] ρ X'.sE → KS X'.B c k → c.v = .ref lam → FnB X'.B lam (kla_fn "<lambda>" (X.env.qual ++ "<lambda>") params body scope clos pm (.ref c') ctv) → Fine X' →
      LFr X' s₁ (slotsOf X.env ρ) ca fdC stC k ar pr pr' cC PC cL PL v0 (some (cK, PK)) ((pos.line, pos.col) :: used) → Blk X' [] (f (.val true (.val (.ref c.C)))) rest (fun zz1 zz2 => False) (LawR b s₁)) :
    Blk X [] ρ (.Assign [.Name x p] (.Call (.Name "cmp_to_key" p1) [.Lambda params body scope pos] [] p2) p3 :: rest) (fun zz1 zz2 => False) (LawR b s₁) := fun P s okP => by
  have ok := okP.ok
  have e0 : SExt X.T X.sE s := ok.ext
  obtain ⟨mi, old⟩ := L.at_ s e0
  refine wpAny_execs_cons (wpAny_Assign_Name (mk_expr (n := 0) F ok (by lia) mi old hgc hdef hcl hu fun lam cK PK C N dsc f0 f1 f2 f3 f4 f5 cc h1 s1 tk old1 frl la th1 cr mi' gg oo => ?_) (hs _))
  obtain ⟨B', re, ks, F', ok'⟩ := mk_re F ok mi L.fr hv hpl hkl tk th1 cr
  have M : X.M = model B'.prog B'.w := by unfold Cx.M; rw [re.prog, re.w]
  have L' := L.re ok re mi' old1 gg oo
  have hlam : lam ∉ B'.T := fun z => by
    rw [re.T] at z
    obtain ⟨o, e, _⟩ := re.sl _ z
    rw [frl] at e; cases e
  rw [← re.h₁] at la
  obtain ⟨pm, c', ctv, fb⟩ := lam_fnB la hlam (fun a ha => let ⟨o, e, n⟩ := re.nr a ha; ⟨o, e, n.nf⟩) sk sc sg snd
  have q := cont ⟨B', X.A, X.env, s1, X.n, slotsOf X.env ρ, X.κ⟩ ⟨C, N, dsc, f0, f1, f2, f3, f4, f5, cc, (X.B.mg "__name__").getD .none, .ref lam⟩ lam pm c' ctv cK PK (re.mv2 (by obtain ⟨mc, n, e⟩ := mi'.wd.op; exact ⟨mc, n, e⟩)) ok' ks rfl fb F' L'
  rw [M]
  refine store_val (X := ⟨B', X.A, X.env, s1, X.n, slotsOf X.env ρ, X.κ⟩) (A := X.A) (P := []) F' ⟨ok', fun p hp => nomatch hp⟩ (hp.put _) (.val (.ref C)) fun s' ok'' m => ?_
  refine wpAny_mono (q [] s' ok'') (fun f s3 h3 => ?_) fun zz1 zz2 z => z
  cases f <;> exact h3

/- x = sorted(y, key=lambda ..) -/
theorem blk_sortF {x y : Str} {yb : Bool} {ds ks es : List D} {f : Ent → List (Str × Ent)} {rest : List Stmt} {b : Bool} {lt : Nat → Nat → Bool} {pl : Str × Ent} {p p1 p2 p4 p6 kp pos : Pos} {params : Arguments} {body : Expr} {scope : Scope} {clos : List (Str × Addr)}
    (F : Fine X) (hn : 1 ≤ X.n) (L : LFr X s₁ (slotsOf X.env ρ) ca fdC stC k ar pr pr' cC PC cL PL v0 pk used) (hv : ∀ p ∈ ρ, p.2.simple = true) (hpl : pl ∈ ρ) (hkl : X.env.kindOf pl.1 = some .local)
    (hgs : (Str.ofString "sorted", Ent.gl (.builtin "sorted")) ∈ ρ) (hy : (y, Ent.val yb (.list ds)) ∈ ρ) (hoky : okName y = true)
    (hdef : defaultsOf params X.env = ([], [])) (hcl : closureFor scope X.env = pure clos) (hu : (p4.line, p4.col) ∉ used) (sk : scope.kind = .function) (sc : scope.isCoroutine = false) (sg : scope.isGenerator = false) (snd : (scope.names.map (·.1)).Nodup)
    (hz : ds.length ≤ 64) (hk : ks.length = ds.length) (O : SOrd lt) (he : ∀ p : List Nat, p.Perm (List.range ds.length) → p.Pairwise (Bf lt) → (p.map fun i => ds.getD i .none) = es) (hp : PutF ρ x f)
    (hs : ∀ env, swapsWith (.Call (.Name "sorted" p1) [.Name y p2] [⟨some "key", .Lambda params body scope p4, kp⟩] pos) (some (.Name x p)) p6.line env = pure false)
    (cont : ∀ (X' : Cx) lam pm c' ctv, Mv2 X X' (slotsOf X.env ρ) → Ok X' [] ρ X'.sE → Fine X' → FnB X'.B lam (kla_fn "<lambda>" (X.env.qual ++ "<lambda>") params body scope clos pm (.ref c') ctv) →
      (∀ (N : List Addr) (i : Nat) (d kd : D), ds[i]? = some d → ks[i]? = some kd → CallR X'.in2 N (.ref lam) [d] .s kd) ∧ KeyLt X' [] oneType' ks lt ∧
      (LFr X' s₁ (slotsOf X.env ρ) ca fdC stC k ar pr pr' cC PC cL PL v0 pk ((p4.line, p4.col) :: used) → Blk X' [] (f (.val true (.list es))) rest (fun zz1 zz2 => False) (LawR b s₁))) :
    Blk X [] ρ (.Assign [.Name x p] (.Call (.Name "sorted" p1) [.Name y p2] [⟨some "key", .Lambda params body scope p4, kp⟩] pos) p6 :: rest) (fun zz1 zz2 => False) (LawR b s₁) := fun P s okP => by
  have ok := okP.ok
  refine wpAny_execs_cons (wpAny_Assign_Name (sorted_kw F ok hgs (ev_val F hy hoky) (by rfl) fun v s0 k0 r0 => ?_) (hs _))
  have ok0 := ok.mono k0
  have e0 : SExt X.T X.sE s0 := ok0.ext
  obtain ⟨mi, old⟩ := L.at_ s0 e0
  refine lam_mk F ok0 mi old hdef hcl hu fun lam s1 tk old1 frl la mi' gg oo => ?_
  obtain ⟨B', pm, c', ctv, re, fb, F', ok'⟩ := lam_re F ok0 mi L.fr hv hpl hkl tk frl la sk sc sg snd
  have M : X.M = model B'.prog B'.w := by unfold Cx.M; rw [re.prog, re.w]
  have L' := L.re ok0 re mi' old1 gg oo
  obtain ⟨hc, kl, q⟩ := cont ⟨B', X.A, X.env, s1, X.n, slotsOf X.env ρ, X.κ⟩ lam pm c' ctv (re.mv2 (by obtain ⟨mc, n, e⟩ := mi'.wd.op; exact ⟨mc, n, e⟩)) ok' F' fb
  rw [M]
  have r1 := tk.rep r0
  cases r1 with
  | @list l vs _ hl hw hr =>
    refine wpAny_mono (sortedK_v (X := ⟨B', X.A, X.env, s1, X.n, slotsOf X.env ρ, X.κ⟩) (ks := ks) (b := false) (es := es) F' ok' hn O hl hr hz hk (ksk_s1 _ _) (fun y => ksk_l1 _ _) (fun y => ksk_t1 _ _) (fun N i d kd e1 e2 => hc _ i d kd e1 e2) kl he) (fun v s' h => ?_) fun zz1 zz2 z => z.elim
    obtain ⟨kx, pp, _⟩ := h
    refine store_val (X := ⟨B', X.A, X.env, s1, X.n, slotsOf X.env ρ, X.κ⟩) (A := X.A) (P := []) F' ⟨ok'.mono kx, fun p hp => nomatch hp⟩ (hp.put _) pp fun s'' ok3 m => ?_
    refine wpAny_mono (q L' [] s'' ok3) (fun f s3 h3 => ?_) fun zz1 zz2 z => z
    cases f <;> exact h3
end
end Mine


open PySem PySem.W PyProof.Rows PySem.W.X
set_option maxHeartbeats 4000000
set_option pp.deepTerms false
set_option pp.deepTerms.threshold 3

namespace Mine
open PySem PySem.Calls PyProof.Rows
section
variable {X : Cx} {W : List Addr} {ρ : List (Str × Ent)} {c : KC} {k : KSrc}
/- two keys of a class, compared by < -/
theorem key_lt {s : Shared} {u v : Value} {a b : D} {r : Bool} {Q : Value → Shared → Prop} {E : Value → Shared → Prop} (F : Fine X) (ok : Ok X W ρ s) (K : KIn X.B c k) (hc : CallV X W (.ref c.f1) [.key c.C a, .key c.C b] .f (.bool r)) (ra : Rep W s.heap u (.key c.C a)) (rb : Rep W s.heap v (.key c.C b)) (q : ∀ s', SExt [] s s' → Q (.bool r) s') :
    wpAny X.M X.A (richCompare .Lt u v) Q E s := by
  have KI := K _ (ok.base F)
  have call := hc s ρ [u, v] F ok (.cons (Rep.toT ra) (.cons (Rep.toT rb) .nil))
  obtain ⟨x, u', rfl, ⟨ox, ex, cx, _⟩, _⟩ := rep_key (Rep.toT ra)
  obtain ⟨y, v', rfl, ⟨oy, ey, cy, _⟩, _⟩ := rep_key (Rep.toT rb)
  obtain ⟨hh, g, d, t, os⟩ := s
  have OS := os_lt KI ex cx
  refine richCompare_own_same (op := .Lt) rfl OS ey cy (by have := F.uni; lia) (wpAny_mono call (fun z s' h => ?_) fun zz1 zz2 e => e.elim)
  obtain ⟨k1, p, _⟩ := h
  have p : Rep W s'.heap z (.bool r) := p
  cases p
  exact ⟨r, rfl, q s' k1⟩
theorem os_eq {h : Heap} {x : Addr} {ox : Obj} (KI : c.In k h) (ex : h.get? x = some ox) (cx : ox.cls = .ref c.C) : h.OwnSpecial x c.C c.f3 "object" "__eq__" := by
  obtain ⟨k0, k2, k3, eC⟩ := KI.1.cls
  obtain ⟨v0, qual, sm, tq, tf, tm, fl, sl, st, hN⟩ := KI.1.ns
  obtain ⟨c', ctv, doc, ef, _⟩ := KI.1.eq
  exact ⟨ox, _, "K", "cmp_to_key.<locals>.K", c.N, [.type "object"], _, false, ["obj"], [], false, none, none, k0, none, k2, k3, some (.bool false), "object.__new__", _, some (.builtin "object.__eq__"), ex, cx, eC, hN, by kernel_rfl, ef, rfl, by rw [mroOf_type]; kernel_rfl, by kernel_rfl⟩
/- two keys of a class, asked whether they are alike -/
theorem key_eq {s : Shared} {u v : Value} {a b : D} {r : Bool} {Q : Bool → Shared → Prop} {E : Value → Shared → Prop} (F : Fine X) (ok : Ok X W ρ s) (K : KIn X.B c k) (hc : CallV X W (.ref c.f3) [.key c.C a, .key c.C b] .f (.bool r)) (ra : Rep W s.heap u (.key c.C a)) (rb : Rep W s.heap v (.key c.C b)) (hs : u = v → r = true) (q : ∀ s', SExt [] s s' → Q r s') :
    wpAny X.M X.A (eqBool u v) Q E s := by
  have KI := K _ (ok.base F)
  have call := hc s ρ [u, v] F ok (.cons (Rep.toT ra) (.cons (Rep.toT rb) .nil))
  obtain ⟨x, u', rfl, ⟨ox, ex, cx, _⟩, _⟩ := rep_key (Rep.toT ra)
  obtain ⟨y, v', rfl, ⟨oy, ey, cy, _⟩, _⟩ := rep_key (Rep.toT rb)
  unfold eqBool
  refine wpAny_holding ?_
  cases e : (Value.ref x == Value.ref y) with
  | true =>
    rw [if_pos rfl]
    refine wpAny_bind (wpAny_rule (wpAny_pure ?_))
    have := q s (.refl ..)
    rwa [hs (eq_of_beq e)] at this
  | false =>
    rw [if_neg Bool.false_ne_true]
    obtain ⟨hh, g, d, t, os⟩ := s
    refine wpAny_bind (wpAny_mono (Q := fun w s' => w = .bool r ∧ SExt [] ⟨hh, g, d, t, os⟩ s') (richCompare_own_same (op := .Eq) rfl (os_eq KI ex cx) ey cy (by have := F.uni; lia) (wpAny_mono call (fun z s' h => ?_) fun zz1 zz2 e => e.elim)) (fun w s' h => ?_) fun zz1 zz2 z => z)
    · obtain ⟨k1, p, _⟩ := h
      have p : Rep W s'.heap z (.bool r) := p
      cases p
      exact ⟨r, rfl, rfl, k1⟩
    · rw [h.1]
      unfold truthOfDropped
      exact wpAny_truthy_bool (q s' h.2)
/- lists of keys of a class -/
noncomputable abbrev keysD (C : Addr) (l : List Int) : D := .list (l.map fun a => .key C (.int a))
noncomputable abbrev Cx.in3 (X : Cx) : Cx := { X.in2 with A := X.in2.A.in1, n := X.in2.n - 1 }
theorem keys_at {h : Heap} {us : List Value} {C : Addr} {l : List Int} {i : Nat} {u : Value} {x : Int} (r : Reps W h us (l.map fun a => .key C (.int a))) (eu : us[i]? = some u) (ex : l[i]? = some x) : Rep W h u (.key C (.int x)) := by
  obtain ⟨v, e, rv⟩ := r.get (i := i) (by rw [List.getElem?_map, ex]; rfl)
  rw [eu] at e; cases e
  exact rv
theorem key_inj {h : Heap} {u : Value} {C : Addr} {x y : Int} (r1 : Rep W h u (.key C (.int x))) (r2 : Rep W h u (.key C (.int y))) : x = y := by
  obtain ⟨p, u1, e1, ⟨o1, g1, _, _, s1⟩, _, t1⟩ := rep_key (Rep.toT r1)
  obtain ⟨p2, u2, e2, ⟨o2, g2, _, _, s2⟩, _, t2⟩ := rep_key (Rep.toT r2)
  rw [e1] at e2; cases e2
  rw [g1] at g2; cases g2
  rw [s1] at s2
  cases s2
  cases t1; cases t2
  rfl
theorem keyList_ask {s : Shared} {a b : Addr} {us vs : List Value} {xs ys : List Int} {e l : Int → Int → Bool} {G : Int → Prop} (hn : 2 ≤ X.n) (F : Fine X.in2) (ok : Ok X.in2 W ρ s) (K : KIn X.B c k) (hr : ∀ a, e a a = true) (gx : ∀ a ∈ xs, G a) (gy : ∀ a ∈ ys, G a)
    (he : ∀ a b, G a → G b → CallV X.in3 W (.ref c.f3) [.key c.C (.int a), .key c.C (.int b)] .f (.bool (e a b))) (hl : ∀ a b, G a → G b → CallV X.in3 W (.ref c.f1) [.key c.C (.int a), .key c.C (.int b)] .f (.bool (l a b)))
    (la : s.heap.PlainList a us.toArray) (lb : s.heap.PlainList b vs.toArray) (ra : Reps W s.heap us (xs.map fun a => .key c.C (.int a))) (rb : Reps W s.heap vs (ys.map fun a => .key c.C (.int a))) :
    wpAny X.M X.A.in1.in1 (keyLt' oneType' (.ref a) (.ref b)) (fun c s'' => c = lexLt e l xs ys ∧ SExt [] s s'') NoE s := by
  have F1 : Fine X.in3 := F.in1 (by show 1 ≤ X.n - 1; lia)
  obtain ⟨na, oa⟩ := la
  obtain ⟨nb, ob⟩ := lb
  refine oneLt_list (I := fun s' => SExt [] s s') (na := na) (nb := nb) ⟨by have := ra.length; simpa using this, by have := rb.length; simpa using this, fun s' k => ⟨k.ext.strict _ _ oa, k.ext.strict _ _ ob⟩, fun i u v x y s' Q E eu ev ex ey kx hq => ?_, fun i u v x y s' Q E eu ev ex ey kx hq => ?_⟩ (by have := F.uni; show X.in2.A.units < cLine; lia) (.refl _ _) fun s' k => ⟨rfl, k⟩
  · have r1 := keys_at ra eu ex
    have r2 := keys_at rb ev ey
    exact key_eq (X := X.in3) F1 (ok.mono kx).in1 K (he x y (gx x (List.mem_of_getElem? ex)) (gy y (List.mem_of_getElem? ey))) (r1.ext kx.ext) (r2.ext kx.ext) (fun z => by rw [z] at r1; rw [key_inj r1 r2]; exact hr _) fun s'' k' => hq s'' (kx.trans k')
  · exact key_lt (X := X.in3) F1 (ok.mono kx).in1 K (hl x y (gx x (List.mem_of_getElem? ex)) (gy y (List.mem_of_getElem? ey))) ((keys_at ra eu ex).ext kx.ext) ((keys_at rb ev ey).ext kx.ext) fun s'' k' => hq s'' (kx.trans k')
theorem list_at {α : Type} {f : α → D} {l : List α} {i : Nat} {a : D} (h : (l.map f)[i]? = some a) : ∃ x, l[i]? = some x ∧ f x = a := by
  rw [List.getElem?_map] at h
  exact Option.map_eq_some_iff.mp h
theorem rep_list {h : Heap} {u : Value} {ds : List D} (r : Rep W h u (.list ds)) : ∃ a us, u = .ref a ∧ h.PlainList a us.toArray ∧ Reps W h us ds := by
  cases r with | list hl _ hr => exact ⟨_, _, rfl, hl, hr⟩
theorem keyLt_keyLists {kss : List (List Int)} {e l : Int → Int → Bool} {G : Int → Prop} (hn : 2 ≤ X.n) (K : KIn X.B c k) (hr : ∀ a, e a a = true) (hG : ∀ ks ∈ kss, ∀ a ∈ ks, G a)
    (he : ∀ X' W a b, X'.B = X.B → X'.n = X.n - 2 → G a → G b → CallV X' W (.ref c.f3) [.key c.C (.int a), .key c.C (.int b)] .f (.bool (e a b)))
    (hl : ∀ X' W a b, X'.B = X.B → X'.n = X.n - 2 → G a → G b → CallV X' W (.ref c.f1) [.key c.C (.int a), .key c.C (.int b)] .f (.bool (l a b))) :
    KeyLt X W oneType' (kss.map (keysD c.C)) (fun i j => lexLt e l (kss.getD i []) (kss.getD j [])) where
  kind := fun N s vs ρ F ok r h2 => by
    refine kas_kind (T := .type "list") h2 (fun v hv => ?_) (by rfl) (by simp) ⟨rfl, .refl _ _⟩
    obtain ⟨i, hi, e⟩ := List.getElem_of_mem hv
    have hl := r.length
    obtain ⟨v', e', rv⟩ := r.get (i := i) (List.getElem?_eq_getElem (hl ▸ hi))
    rw [List.getElem?_eq_getElem hi, e] at e'
    cases e'
    obtain ⟨ks, _, q⟩ := list_at (List.getElem?_eq_getElem (hl ▸ hi))
    rw [← q] at rv
    obtain ⟨a, us, rfl, ⟨n, ho⟩, _⟩ := rep_list rv
    exact (Looks.ld ho).andThen .now
  ask := fun N s u v a b i j ρ F ok ea eb ra rb => by
    obtain ⟨xs, qa, za⟩ := list_at ea
    obtain ⟨ys, qb, zb⟩ := list_at eb
    rw [← za] at ra
    rw [← zb] at rb
    obtain ⟨a, us, rfl, la, ra⟩ := rep_list ra
    obtain ⟨b, vs, rfl, lb, rb⟩ := rep_list rb
    rw [List.getD_eq_getElem?_getD, List.getD_eq_getElem?_getD, qa, qb]
    exact keyList_ask hn F ok K hr (hG _ (List.mem_of_getElem? qa)) (hG _ (List.mem_of_getElem? qb)) (fun a b => he X.in3 _ a b rfl (Nat.sub_sub ..)) (fun a b => hl X.in3 _ a b rfl (Nat.sub_sub ..)) la lb ra rb
end
end Mine



namespace Mine
open PySem PyProof.Rows
end Mine



namespace Mine
open PySem PyProof.Rows
section
variable {X : Cx} {W : List Addr} {ρ : List (Str × Ent)} {N : Nrm} {R : Rtn}
/- obj.name(e) as a statement, obj a list -/
theorem meth_stm {obj e : Expr} {name : Str} {id : String} {ap cp pos : Pos} {a : Addr} {K : Heap → Prop} {V : Heap → Value → Heap → Prop} {rest : List Stmt} (F : Fine X) (slot : Slot "list" name id) (hty : typeOf (.builtin id) = pure (.type "method_descriptor"))
    (ho : ∀ P s, OkP X W P ρ s → K s.heap → wpAny X.M X.A (eval obj X.env) (fun v s' => SExt [] s s' ∧ v = .ref a) NoE s)
    (hL : ∀ P s, OkP X W P ρ s → K s.heap → ∃ ds, RepT W s.heap (.ref a) (.list ds)) (hK : ∀ h h', Mv h h' → K h → K h')
    (ha : ∀ s, Ok X W ρ s → wpAny X.M X.A (eval e X.env) (fun v s' => SExt [] s s' ∧ V s.heap v s'.heap) NoE s)
    (hcall : ∀ P s s' v, OkP X W P ρ s → K s.heap → SExt [] s s' → V s.heap v s'.heap → wpAny X.M X.A (call (.builtin id) [.ref a, v]) (fun zz1 s'' => Then X rest N R P s'') NoE s')
    (he : ∀ env, ∃ pl, eval (.Call (.Attribute obj name ap) [e] [] cp) env = (do
      let ov ← eval obj env
      standAt ap.atName
      let (f, first) ← holding [ov] (getMethod ov name pl)
      callWith cp f first (backTo cp (starEach [e] env)) (backToKw cp (keywordEach [] env))) := by intro _; exact ⟨_, rfl⟩)
    (hst : ∀ env, (backTo cp (starEach [e] env)).any (·.1) = false := by intro _; rfl) (hse : ∀ env, starEach [e] env = (false, eval e env) :: starEach [] env := by intro _; rfl)
    (hsw : ∀ env, swapsWith (.Call (.Attribute obj name ap) [e] [] cp) Option.none pos.line env = pure false := by intro _; rfl) :
    BlkK X W ρ K (.Expr (.Call (.Attribute obj name ap) [e] [] cp) pos :: rest) N R := blkK_cons fun P s ok hk => by
  have hi : interactive X.env = false := by unfold interactive; rw [F.kind]; rfl
  refine wpAny_Expr_any ?_ hi (hsw _)
  obtain ⟨pl, he⟩ := he X.env
  rw [he]
  refine wpAny_bind (wpAny_mono (ho P s ok hk) (fun ov s₁ k₁ => ?_) fun zz1 zz2 x => x)
  obtain ⟨k₁, rfl⟩ := k₁
  have ok₁ := ok.mono k₁
  have hk₁ := hK _ _ (Ext.mv k₁.ext) hk
  obtain ⟨ds, r⟩ := hL P s₁ ok₁ hk₁
  refine wpAny_bind (wpAny_standAt (wpAny_bind (wpAny_holding (wpAny_mono (getM_list (X := X) (W := W) (ds := ds) slot hty s₁ ρ (.ref a) _ F ok₁.ok r) (fun fx s₂ k₂ => ?_) fun zz1 zz2 x => x))))
  obtain ⟨k₂, rfl⟩ := k₂
  have ok₂ := ok₁.mono k₂
  have hk₂ := hK _ _ (Ext.mv k₂.ext) hk₁
  show wpAny X.M X.A (callWith cp (.builtin id) [.ref a] (backTo cp (starEach [e] X.env)) []) _ _ s₂
  refine callWith_F (V := fun vs h => ∃ v, vs = [v] ∧ V s₂.heap v h) F ok₂.ok (wpAny_items_cons (wpAny_mono (ha s₂ ok₂.ok) (fun v s₃ k₃ => wpAny_items_nil ⟨k₃.1, v, rfl, k₃.2⟩) fun zz1 zz2 x => x) (hse _)) keepOk_builtin (fun vs s₃ k₃ hv => ?_) (hst _)
  obtain ⟨v, rfl, hv⟩ := hv
  exact hcall P s₂ s₃ v ok₂ hk₂ k₃ hv

theorem blkK_if {e : Expr} {K : Heap → Prop} {body orelse rest : List Stmt} {pos : Pos} {c : Bool} (h : Tst X W ρ e c) (hK : ∀ h h', Mv h h' → K h → K h') (ht : c = true → BlkK X W ρ K body (Then X rest N R) R) (hf : c = false → BlkK X W ρ K orelse (Then X rest N R) R) : BlkK X W ρ K (.If e body orelse pos :: rest) N R :=
  blkK_cons fun P s ok hk => wpAny_If (wpAny_mono (h s ok.ok) (fun b s₁ k => by
    obtain ⟨k, rfl⟩ := k
    cases b with
    | true => exact ht rfl P s₁ (ok.mono k) (hK _ _ (Ext.mv k.ext) hk)
    | false => exact hf rfl P s₁ (ok.mono k) (hK _ _ (Ext.mv k.ext) hk)) fun zz1 zz2 x => x)
/- x = e, while more is known of the heap -/
theorem assignK_own {x : Str} {p pos : Pos} {e : Expr} {K : Heap → Prop} {ns : List Int} {rest : List Stmt} {f : Ent → List (Str × Ent)} (F : Fine X) (h : Ev X W ρ .f e (.list (ns.map .int))) (hp : PutF ρ x f) (hK : ∀ h h', Mv h h' → K h → K h')
    (n : ∀ a, (∀ q ∈ ρ, ∀ b ms, q.2 = .ownD b ms → b ≠ a) → X.sE.heap.get? a = Option.none → (∀ b ∈ W, b ≠ a) → BlkK X (a :: W) (f (.own a ns)) K rest N R)
    (hs : ∀ env, swapsWith e (some (.Name x p)) pos.line env = pure false := by intro _; rfl) : BlkK X W ρ K (.Assign [.Name x p] e pos :: rest) N R :=
  blkK_cons fun P s ok hk => wpAny_Assign_Name (wpAny_mono (h s ok.ok) (fun v s₁ k => by
    have r : Rep W s₁.heap v (.list (ns.map .int)) := k.2.1
    obtain ⟨a, rfl⟩ : ∃ a, v = .ref a := by cases r with | list => exact ⟨_, rfl⟩
    obtain ⟨ok', ent, hown⟩ := own_ok ok k.1 k.2
    have fa : s.heap.get? a = Option.none := k.2.2 a rfl
    refine store_ok F ok' (hp.put _) ent (fun b ms z => by cases z; exact hown) fun s' ok'' mv => n a hown (ok.ok.ext.ext.fresh fa) (fun b hb z => ?_) P s' ok'' (hK _ _ mv.mv (hK _ _ (Ext.mv k.1.ext) hk))
    obtain ⟨o, ho⟩ := ok.ok.wal b hb
    rw [z, fa] at ho; cases ho) fun zz1 zz2 x => x) (hs _)
/- the end of list.append -/
theorem append_end {a : Addr} {us : List Value} {v : Value} {s : Shared} {Q : Value → Shared → Prop} (hl : s.heap.PlainList a us.toArray) (hz : us.length ≤ 1000000)
    (q : ∀ h', h'.PlainList a (us ++ [v]).toArray → Heap.ExtBut a s.heap h' → Q .none { s with heap := h', toks := s.toks }) : wpAny X.M X.A (call (.builtin "list.append") [.ref a, v]) Q NoE s :=
  wpAny_list_append_plain hl (fun h' hl' hsb => q h' (by simpa using hl') hsb.extBut) (by rw [List.size_toArray, sizeLine_eq]; (first | lia | omega))
/- the end of list.extend -/
theorem extend_end {a b : Addr} {us ws : List Value} {s : Shared} {Q : Value → Shared → Prop} (hl : s.heap.PlainList a us.toArray) (hb : s.heap.PlainList b ws.toArray) (hz : us.length + ws.length ≤ 1000000)
    (q : ∀ h', h'.PlainList a (us ++ ws).toArray → Heap.ExtBut a s.heap h' → Q .none { s with heap := h', toks := s.toks }) : wpAny X.M X.A (call (.builtin "list.extend") [.ref a, .ref b]) Q NoE s := by
  obtain ⟨n, ho⟩ := hl
  obtain ⟨m, hb⟩ := hb
  have hz' : us.toArray.size + ws.toArray.size ≤ sizeLine := by rw [List.size_toArray, List.size_toArray, sizeLine_eq]; (first | lia | omega)
  refine call_meets PySem.F.slot_list_extend ⟨_, ho, rfl⟩ PySem.F.entry_list_extend (PySem.F.args_list_extend_2 _ _) (PySem.AutoSeq1.list_extend_list_list_0 a us.toArray n b ws.toArray m (extend_door hz') (Nat.le_trans (Nat.le_add_right _ _) hz') (Nat.le_succ_of_le hz')) ⟨ho, hb, ?_⟩
  have e : us.toArray ++ ws.toArray = (us ++ ws).toArray := by simp
  have ho' : (s.heap.update a (Obj.mapSeq fun x => x ++ ws.toArray)).get? a = some { cls := .type "list", data := .seq (us ++ ws).toArray (if (us.toArray ++ ws.toArray).size == us.toArray.size then n else n + 1) } := by
    rw [Heap.get?_update_self _ ho (by rw [mapSeq_app]; rfl), mapSeq_app, e]
  exact q _ ⟨_, ho'⟩ (Heap.SameBut.update ..).extBut

/- x.extend(e) -/
theorem extend_own {x : Str} {p ap cp pos : Pos} {e : Expr} {a : Addr} {ds es : List D} {ρ' : List (Str × Ent)} {rest : List Stmt} (F : Fine X) (hx : (x, Ent.ownD a ds) ∈ ρ) (h : Ev X W ρ .s e (.list es)) (hz : ds.length + es.length ≤ 1000000) (hp : Put ρ x (.ownD a (ds ++ es)) ρ')
    (n : Blk X W ρ' rest N R) (hn : okName x = true := by decide +kernel)
    (he : ∀ env, ∃ pl, eval (.Call (.Attribute (.Name x p) "extend" ap) [e] [] cp) env = (do
      let ov ← eval (.Name x p) env
      standAt ap.atName
      let (f, first) ← holding [ov] (getMethod ov "extend" pl)
      callWith cp f first (backTo cp (starEach [e] env)) (backToKw cp (keywordEach [] env))) := by intro _; exact ⟨_, rfl⟩)
    (hst : ∀ env, (backTo cp (starEach [e] env)).any (·.1) = false := by intro _; rfl) (hse : ∀ env, starEach [e] env = (false, eval e env) :: starEach [] env := by intro _; rfl)
    (hsw : ∀ env, swapsWith (.Call (.Attribute (.Name x p) "extend" ap) [e] [] cp) Option.none pos.line env = pure false := by intro _; rfl) :
    Blk X W ρ (.Expr (.Call (.Attribute (.Name x p) "extend" ap) [e] [] cp) pos :: rest) N R := fun P s ok => by
  refine meth_stm (K := fun zz1 => True) (a := a) (V := fun zz1 v h' => Rep W h' v (.list es)) F PySem.F.slot_list_extend PySem.F.type_list_extend (fun P s ok zz1 => ?_) (fun P s ok zz1 => ?_) (fun zz1 zz2 zz3 zz4 => trivial) h (fun P s s' v ok zz1 k r => ?_) he hst hse hsw P s ok trivial
  · obtain ⟨h1, _⟩ := own_valD ok hx
    exact wpAny_Name (load1 F.kind h1 ⟨.refl .., rfl⟩ (okName_d hn).2) (okName_d hn).1
  · obtain ⟨_, vs, hl, hr⟩ := own_valD ok hx
    exact ⟨ds, a, vs, rfl, hl, hr⟩
  · have ok' := ok.mono k
    obtain ⟨_, us, hl, hr⟩ := own_valD ok' hx
    have w : a ∈ W := by
      obtain ⟨_, z, _⟩ | ⟨⟨ov, _, _, w, _⟩, _⟩ := ok'.ok.ent _ hx
      · cases z
      · exact w
    cases r with
    | @list b ws _ hb hw hr2 =>
      refine extend_end hl hb (by rw [hr.length, hr2.length]; exact hz) fun h' hl' hsb => n P _ (own_setD (tk := s'.toks) ok' hx hp hsb ⟨_, hl', ?_⟩)
      exact (hr.append hr2).extBut hsb (.inl w)
/- x = [[]]: two new lists, changed in place from here on -/
theorem assign_rows {x : Str} {p q1 q2 pos : Pos} {rest : List Stmt} {f : Ent → List (Str × Ent)} (F : Fine X) (hp : PutF ρ x f)
    (n : ∀ a b, a ≠ b → X.sE.heap.get? a = Option.none → X.sE.heap.get? b = Option.none → BlkK X (a :: b :: W) (f (.ownD a [.val (.ref b)])) (fun h => RepT [] h (.ref b) (.list [])) rest N R)
    (hs : ∀ env, swapsWith (.List [.List [] q1] q2) (some (.Name x p)) pos.line env = pure false := by intro _; rfl) : Blk X W ρ (.Assign [.Name x p] (.List [.List [] q1] q2) pos :: rest) N R := by
  refine blk_cons fun P s ok => wpAny_Assign_Name (wpAny_List ?_) (hs _)
  refine wpAny_items_cons (wpAny_mono ((ev_list (ds := []) evs_nil (by decide)) s ok.ok) (fun v s₁ k₁ => wpAny_items_nil ⟨by rw [sizeLine_eq]; exact (by decide : (1 : Nat) ≤ 16777216), ?_⟩) fun zz1 zz2 x => x) rfl
  obtain ⟨k₁, r, fb⟩ := k₁
  cases r with
  | @list b us _ hb hw hr =>
    cases hr
    have fb : s.heap.get? b = Option.none := fb b rfl
    have k₂ := sext_push (T := []) s₁ { cls := .type "list", data := .seq #[.ref b] }
    have hb2 : (s₁.heap.push { cls := .type "list", data := .seq #[.ref b] }).PlainList b #[] := hb.at fun o e => Heap.get?_push_of_some _ e
    obtain ⟨m1, n1⟩ := ok.mask k₁ fb (by obtain ⟨_, ho⟩ := hb; exact ⟨_, ho⟩)
    have fa : s₁.heap.get? s₁.heap.objs.size = Option.none := get_size _
    have ga : (s₁.heap.push { cls := .type "list", data := .seq #[.ref b] }).get? s₁.heap.objs.size = some { cls := .type "list", data := .seq #[.ref b] } := Heap.get?_push_size _ rfl
    obtain ⟨m2, n2⟩ := m1.mask k₂ fa ⟨_, ga⟩
    have eb : X.sE.heap.get? b = Option.none := ok.ok.ext.ext.fresh fb
    have ea : X.sE.heap.get? s₁.heap.objs.size = Option.none := m1.ok.ext.ext.fresh fa
    have hab : s₁.heap.objs.size ≠ b := fun z => by obtain ⟨_, ho⟩ := hb; rw [← z, fa] at ho; cases ho
    refine store_ok (e := .ownD s₁.heap.objs.size [.val (.ref b)]) F m2 (hp.put _) ⟨rfl, .head _, ea, [.ref b], ⟨_, ga⟩, .cons (.val _) .nil⟩ (fun a ns e => ?_) fun s' ok' mv => ?_
    · cases e; exact n2
    · exact n _ b hab ea eb P s' ok' (mv.mv _ _ _ ⟨b, [], rfl, hb2, .nil⟩)
end
end Mine



namespace Mine
open PySem PyProof.Rows
/- the parameters, one by one -/
inductive PutsR : List (Str × Ent) → List Str → List D → List (Str × Ent) → Prop
  | nil {ρ : List (Str × Ent)} : PutsR ρ [] [] ρ
  | cons {ρ ρ' ρ'' : List (Str × Ent)} {x : Str} {d : D} {ns : List Str} {ds : List D} : Put ρ x (.val true d) ρ' → PutsR ρ' ns ds ρ'' → PutsR ρ (x :: ns) (d :: ds) ρ''
theorem PutsR.all {ρ ρ' : List (Str × Ent)} {ns : List Str} {ds : List D} (h : PutsR ρ ns ds ρ') : ∀ {vs : List Value}, vs.length = ds.length → PutAll ρ (ns.zip vs) (ds.map (true, ·)) ρ' := by
  induction h with
  | nil => intro vs hl; cases vs <;> first | exact .nil | simp at hl
  | cons hp _ ih =>
    intro vs hl
    cases vs with
    | nil => simp at hl
    | cons v vs => exact .val hp (ih (by simpa using hl))
theorem PutsR.len {ρ ρ' : List (Str × Ent)} {ns : List Str} {ds : List D} (h : PutsR ρ ns ds ρ') : ns.length = ds.length := by
  induction h with
  | nil => rfl
  | cons _ _ ih => rw [List.length_cons, List.length_cons, ih]
theorem Reps.hand {W : List Addr} {h : Heap} : ∀ {vs : List Value} {ds : List D}, Reps W h vs ds → Hand h W h vs (ds.map (true, ·))
  | _, _, .nil => .nil
  | _, _, .cons a b => .val a (Reps.hand b)
theorem callR_def {X : Cx} {W : List Addr} {a : Addr} {st : Stmt} {as : List Arg} {ds : List D} {l : Lv} {d : D} {ρ₀ ρ₁ : List (Str × Ent)} {n : Nat} (hn : n + 1 ≤ X.n) (dd : DefAt X.B a st)
    (hp : fArgs st = ⟨[], as, Option.none, [], [], Option.none, []⟩) (nd : (as.map (·.arg)).Nodup) (lo : LayOf X.B [] (fScope st).names ρ₀) (pu : PutsR ρ₀ (as.map (·.arg)) ds ρ₁)
    (run : ∀ X', X'.B = X.B → X'.n = n → X'.T = [] → X'.κ = closable (fScope st).names → Fine X' → (∀ a ∈ W, ∃ o, X'.sE.heap.get? a = some o) → Blk X' W ρ₁ (fBody st) (fun zz1 zz2 => False) (Ret X' W l d)) : CallR X W (.ref a) ds l d := by
  obtain ⟨fd, fb, hd⟩ := dd.fn
  intro s ρ vs F hs hr
  have hl : vs.length = as.length := by rw [hr.length, ← pu.len, List.length_map]
  refine wpAny_call ?_
  refine call_fn (n := n) (T := []) (F.room.less hn) (fun zz1 h => nomatch h) (hs.base F) (fb.at (hs.base F)) hd.body (bind_plain (hd.params.trans hp) hd.defaults hl nd) (hd.closure ▸ CloOk.nil) (by rw [hd.scope]; exact lo) (pu.all hr.length) (by rw [zip_snd _ _ (by rw [List.length_map]; exact hl)]; exact hr.hand) hs.wal ?_
  intro env s' F' ok
  refine wpAny_mono (run ⟨X.B, X.A.deeper env, env, s, n, [], closable fd.scope.names⟩ rfl rfl rfl (by rw [hd.scope]) F' hs.wal [] s' ok) (fun f s'' h => ?_) fun zz1 zz2 h => h.elim
  cases f with
  | next => exact h.elim
  | ret v =>
    have h' : Ret ⟨X.B, X.A.deeper env, env, s, n, [], closable fd.scope.names⟩ W l d v s'' := h
    exact ⟨h'.1, h'.2⟩
  | _ => exact h.elim
section
variable {X : Cx} {W : List Addr} {ρ : List (Str × Ent)} {N : Nrm} {R : Rtn}
theorem ev_callR {g : Str} {p : Pos} {f : Value} {es : List Expr} {ds : List D} {l : Lv} {d : D} {pos : Pos} (F : Fine X) (hf : (g, Ent.gl f) ∈ ρ) (ha : Evs X W ρ es ds) (hc : CallR X W f ds l d) (hk : KeepOk X W f)
    (hst : ∀ env, (backTo pos (starEach es env)).any (·.1) = false := by intro _; rfl) (hg : okName g = true := by decide +kernel) : Ev X W ρ l (.Call (.Name g p) es [] pos) d := fun s hs => by
  refine name_Q F hs hf hg fun s₁ k₁ => ?_
  refine callWith_Q (V := fun vs h => Reps W h vs ds) F (hs.mono k₁) (ha pos s₁ (hs.mono k₁)) hk (fun vs s₂ k₂ hv => ?_) (hst _)
  exact wpAny_mono (hc s₂ ρ vs F ((hs.mono k₁).mono k₂) hv) (fun v s' h => ⟨(k₁.trans k₂).trans h.1, h.2.back (k₁.trans k₂)⟩) fun zz1 zz2 x => x

/- masks are taken off, an own list is an own list no more -/
theorem OkP.freeze {P : List Pr} {s : Shared} {W' : List Addr} {ρ' : List (Str × Ent)} {x : Str} {a : Addr} {ds es : List D} {b : Bool} (ok : OkP X W P ρ s) (hx : (x, Ent.ownD a ds) ∈ ρ) (hp : Put ρ x (.val b (.list es)) ρ') (sub : ∀ c ∈ W', c ∈ W)
    (hown : ∀ p ∈ ρ, p.1 ≠ x → ∀ c ms, p.2 = .ownD c ms → c ∈ W') (r : Rep W' s.heap (.ref a) (.list es)) : OkP X W' P ρ' s := by
  obtain ⟨_, z, _⟩ | ⟨⟨ov, h1, rfl, w, f, _⟩, fr⟩ := ok.ok.ent _ hx
  · cases z
  refine ⟨⟨ok.ok.ext, by rw [hp.keys]; exact ok.ok.nd, fun p hp' => ?_, fun p hp' p₂ hp₂ a₁ ns' b ms' e1 e2 hne => ?_, fun b hb => ok.ok.wal b (sub b hb)⟩, fun p hp' => ?_⟩
  · rcases hp.cases ok.ok.nd p hp' with rfl | ⟨m', hne⟩
    · exact .inr ⟨⟨_, h1, _, rfl, r⟩, fun zz1 => fr rfl⟩
    · obtain g | ⟨⟨ov', h2, h3⟩, fr'⟩ := ok.ok.ent _ m'
      · exact .inl g
      · refine .inr ⟨⟨ov', h2, ?_⟩, fr'⟩
        have ho := hown p m' hne
        obtain ⟨y, ent⟩ := p
        cases ent with
        | un => trivial
        | val b d => obtain ⟨v, e, rr⟩ := h3; exact ⟨v, e, rr.less sub⟩
        | tmp b d =>
          obtain ⟨v, e, rr, ex⟩ := h3
          refine ⟨v, e, ?_, ex⟩
          cases d with
          | list ds => obtain ⟨b, us, rfl, hl2, hr2⟩ := rr; exact ⟨b, us, rfl, hl2, hr2.less sub⟩
          | _ => exact Rep.less rr sub
        | ownD b ks => obtain ⟨e, w', f', us, hl2, hr2⟩ := h3; exact ⟨e, ho b ks rfl, f', us, hl2, hr2.less sub⟩
        | gl v => cases h3
  · rcases hp.cases ok.ok.nd p hp' with rfl | ⟨m', _⟩
    · cases e1
    · rcases hp.cases ok.ok.nd p₂ hp₂ with rfl | ⟨m₂, _⟩
      · cases e2
      · exact ok.ok.own p m' p₂ m₂ a₁ ns' b ms' e1 e2 hne
  · have y := ok.prot p hp'
    cases p with
    | obj b o => exact ⟨y.1, fun z => y.2.1 (sub _ z), y.2.2⟩
    | reps vs ds => exact Reps.less y sub
/- an own list of ints is an own list no more -/
theorem OkP.freezeI {P : List Pr} {s : Shared} {W' : List Addr} {ρ' : List (Str × Ent)} {x : Str} {a : Addr} {ns : List Int} {b : Bool} (ok : OkP X W P ρ s) (hx : (x, Ent.own a ns) ∈ ρ) (hp : Put ρ x (.val b (.list (ns.map .int))) ρ') (sub : ∀ c ∈ W', c ∈ W) (ha : a ∉ W')
    (hown : ∀ p ∈ ρ, p.1 ≠ x → ∀ c ms, p.2 = .ownD c ms → c ∈ W') : OkP X W' P ρ' s := by
  obtain ⟨_, vs, hl, hr⟩ := own_val ok hx
  exact ok.freeze hx hp sub hown (.list hl ha (reps_ints_any hr))

/- x = [..], changed in place from here on -/
theorem assign_comp_own {x : Str} {p spos : Pos} {elt : Expr} {t iter : Expr} {ifs : List Expr} {rest : List Comprehension} {scope : Scope} {pos : Pos} {α : Type} {xs : List α} {φ : α → D} {out : α → List D} {ρc : List (Str × Ent)} {f : Ent → List (Str × Ent)} {sts : List Stmt} {N : Nrm} {R : Rtn} (F : Fine X)
    (nd : (scope.names.map (·.1)).Nodup) (hk : scope.kind = .function) (hκ : ∀ x, (x, NameKind.free) ∈ scope.names → x ∈ X.κ) (hloc : ∃ x, (x, NameKind.local) ∈ scope.names) (lo : LayOf X.B ρ scope.names ρc) (src : Src X W ρ iter (xs.map φ))
    (turn : ∀ X' W' acc, X'.B = X.B → X'.n = X.n → X'.κ = closable scope.names → Fine X' → AccAt X' W' acc → ∀ x ∈ xs, ∃ ρ' c, TgtC X' W' ρc t (φ x) ρ' ∧ TstAll X' W' ρ' ifs c ∧
      (c = true → NoOwn ρ' → InnerOk X' W' acc elt (⟨t, iter, ifs, 0⟩ :: rest) (.ListComp elt (⟨t, iter, ifs, 0⟩ :: rest) scope pos) 1 ρ' (out x)) ∧ (c = false → out x = []))
    (hz : (xs.flatMap out).length ≤ 1000000) (hp : PutF ρ x f) (n : ∀ a, Blk X (a :: W) (f (.ownD a (xs.flatMap out))) sts N R)
    (hf : ∀ env x, foldedSetIterable iter env x = pure x := by intro _ _; rfl)
    (hgo : ∀ it v M A E Q (s : Shared), (∃ o vs, s.heap.get? it = some o ∧ o.data = .fields vs ∧ (o.cls = .type "list_iterator" ∨ o.cls = .type "range_iterator")) → Q () s → wpAny M A (letOwnedTupleGo t (.ref it) v) Q E s := by intro _ _ _ _ _ _ _ _ q; exact wpAny_pure q) :
    Blk X W ρ (.Assign [.Name x p] (.ListComp elt (⟨t, iter, ifs, 0⟩ :: rest) scope pos) spos :: sts) N R := by
  have sw : ∃ b, swapsWith (.ListComp elt (⟨t, iter, ifs, 0⟩ :: rest) scope pos) (some (.Name x p)) spos.line X.env = pure b := ⟨_, rfl⟩
  obtain ⟨b, hb⟩ := sw
  refine blk_cons fun P s ok => ?_
  have ent : ∀ {h : Heap} {acc : Addr}, s.heap.get? acc = Option.none → AccIs (acc :: W) h acc (xs.flatMap out) → EntOk X.sE.heap (acc :: W) h (some (.ref acc)) (.ownD acc (xs.flatMap out)) := fun fa ac => by
    obtain ⟨a, vs, e, hl, hr⟩ := ac
    cases e
    exact ⟨rfl, .head _, ok.ok.ext.ext.fresh fa, vs, hl, hr⟩
  cases b with
  | false =>
    refine wpAny_Assign_Name ?_ hb
    rw [eval_ListComp]
    refine comp_gen F nd hk hκ hloc lo src turn hz hf hgo (use := Option.none) ok.ok fun acc C s' hC hns k p ac => ?_
    obtain ⟨m, hns⟩ := hns
    refine ⟨m, hns, fun h' hsb => ?_⟩
    have fa : s.heap.get? acc = Option.none := p.2 acc rfl
    have hne : acc ≠ C := fun z => by
      obtain ⟨a, vs, e, ⟨_, ho⟩, _⟩ := ac
      cases e
      obtain ⟨o, es, ep, ho', hd, _⟩ := hns
      rw [z, ho'] at ho; cases ho
      cases hd
    have k' : SExt [] s { s' with heap := h' } := ⟨k.ext.sameBut hC hsb, k.gens, k.os⟩
    have ac' : AccIs (acc :: W) h' acc (xs.flatMap out) := by
      obtain ⟨a, vs, e, hl, hr⟩ := ac
      cases e
      exact ⟨_, vs, rfl, hl.extBut hsb.extBut hne, hr.extBut hsb.extBut (.inr (.ns hns))⟩
    obtain ⟨ok', hown⟩ := ok.mask k' fa (by obtain ⟨a, vs, e, ⟨_, ho⟩, _⟩ := ac'; cases e; exact ⟨_, ho⟩)
    exact store_ok F ok' (hp.put _) (ent fa ac') (fun a ns e => by cases e; exact hown) fun s'' ok'' zz1 => n acc P s'' ok''
  | true =>
    rw [exec_Assign_Name_used _ _ _ _ hb]
    refine wpAny_bind (wpAny_standAt (wpAny_bind ?_))
    show wpAny _ _ (comprehension (.ListComp elt (⟨t, iter, ifs, 0⟩ :: rest) scope pos) scope X.env (firstIterPos (⟨t, iter, ifs, 0⟩ :: rest) pos) (newList []) false (eval iter X.env) (some (PySem.assign (.Name x p) X.env)) >>= fun zz1 => pure ()) _ _ s
    refine wpAny_bind (comp_gen F nd hk hκ hloc lo src turn hz hf hgo (use := some (PySem.assign (.Name x p) X.env)) ok.ok fun acc C s' hC hns k p ac => ?_)
    obtain ⟨m, hns⟩ := hns
    have fa : s.heap.get? acc = Option.none := p.2 acc rfl
    have hne : acc ≠ C := fun z => by
      obtain ⟨a, vs, e, ⟨_, ho⟩, _⟩ := ac
      cases e
      obtain ⟨o, es, ep, ho', hd, _⟩ := hns
      rw [z, ho'] at ho; cases ho
      cases hd
    have hL : ∀ y e, (y, e) ∈ ρ → X.env.kindOf y = some .local → C ≠ X.env.locals := fun y e hm hky z => by
      obtain ⟨v, z', hg, _⟩ | ⟨⟨ov, h1, _⟩, _⟩ := ok.ok.ent _ hm
      · rw [hky] at hg; cases hg
      · rcases h1 with ⟨_, m', n', _⟩ | ⟨a, _⟩
        · obtain ⟨o, _, _, ho, _⟩ := n'
          rw [← z, hC] at ho; cases ho
        · have a' : X.env.kindOf y = some .cell ∨ X.env.kindOf y = some .free := a
          rw [hky] at a'; rcases a' with z | z <;> cases z
    obtain ⟨e₀, hm₀, _⟩ := (hp.put (.ownD acc (xs.flatMap out))).mem
    obtain ⟨ok', hown⟩ := ok.mask k fa (by obtain ⟨a, vs, e, ⟨_, ho⟩, _⟩ := ac; cases e; exact ⟨_, ho⟩)
    refine wpAny_assign_Name (store_ok2 F ok' (hp.put _) (ent fa ac) (fun a ns e => by cases e; exact hown) fun s'' ok'' zz1 hn => ?_)
    have hns'' := hn C m hns (hL x e₀ hm₀)
    refine ⟨m, hns'', fun h' hsb => wpAny_pure (wpAny_pure (n acc P _ ?_))⟩
    refine ok''.drop (ok.ok.ext.ext.fresh hC) hns'' hsb (fun q hq hk => ?_) fun z => ?_
    · have hkey : q.1 ∈ ρ.map (·.1) := by rw [← (hp.put (.ownD acc (xs.flatMap out))).keys]; exact List.mem_map_of_mem hq
      obtain ⟨⟨y, e'⟩, hm, hy⟩ := List.mem_map.mp hkey
      have hy' : y = q.1 := hy
      exact hL y e' hm (by rw [hy']; exact hk)
    · rcases List.mem_cons.mp z with z | z
      · exact hne z.symm
      · obtain ⟨o', ho'⟩ := ok.ok.wal C z; rw [hC] at ho'; cases ho'
end
section
variable {X : Cx} {W : List Addr} {n m : Nat} {d e : D} {p q : PyData}
theorem Pl.neq (x : Pl n d p) (y : Pl m e q) (hn : n ≤ 64) (hm : m ≤ 64) {c : Bool} (hc : (!PyData.eqv p q) = c) : CmpV X W .NotEq d e c := by
  intro s va vb ρ F hs ra rb
  obtain ⟨as, r1⟩ := x.1 _ _ _ ra
  obtain ⟨bs, r2⟩ := y.1 _ _ _ rb
  exact ne_dataH r1 r2 (x.shaped hn) (y.shaped hm) (by have := F.uni; (first | lia | omega)) ⟨.refl .., congrArg Value.bool hc⟩
end
end Mine


open PySem PySem.W PyProof.Rows PySem.W.X
set_option maxHeartbeats 4000000
set_option pp.deepTerms false
set_option pp.deepTerms.threshold 3

namespace Mine
open PySem PySem.Calls PyProof.Rows
/- what a cell holds, from the base on -/
noncomputable def CellIs (B : Base) (c : Addr) (e : Ent) : Prop := ∀ h, Ext B.T B.h₁ h → ∃ v, h.IsCell c (some v) ∧ ∀ W, EntOk h W h (some v) e.ro
theorem cell_out {X : Cx} {ρ : List (Str × Ent)} {s : Shared} {x : Str} {e : Ent} {c : Addr} {v : Option Value} (F : Fine X) (ok : Ok X [] ρ s) (hx : (x, e) ∈ ρ) (hr : e.rw = false) (hc : X.env.cells.lookup x = some c) (n : s.heap.IsCell c v) (hm : ∃ m, s.heap.Ns X.env.locals m) : c ∉ slotsOf X.env ρ := fun z => by
  rcases slots_mem z with z | ⟨p, hp, h1, h2, h3⟩
  · obtain ⟨m, hm⟩ := hm
    rw [z] at n
    exact ns_ne_cell hm n rfl
  · have e1 := F.cells _ _ c h3 hc
    obtain ⟨y, e'⟩ := p
    have e1 : y = x := e1
    subst e1
    have e2 : e' = e := nodup_unique ok.nd hp hx
    subst e2
    have h1 : e'.rw = true := h1
    rw [hr] at h1; cases h1
theorem seq_out {X : Cx} {ρ : List (Str × Ent)} {s : Shared} {a : Addr} {vs : Array Value} (ok : Ok X [] ρ s) (hl : s.heap.PlainList a vs) (hm : ∃ m, s.heap.Ns X.env.locals m) : a ∉ slotsOf X.env ρ := fun z => by
  obtain ⟨_, ho⟩ := hl
  have key : ∃ o, s.heap.get? a = some o ∧ ∀ xs n, o.data ≠ .seq xs n := by
    rcases slots_mem z with rfl | ⟨p, hp, h1, h2, h3⟩
    · obtain ⟨m, o, es, ep, q, d, _⟩ := hm
      exact ⟨o, q, fun xs n z => by rw [d] at z; cases z⟩
    · rcases ok.ent p hp with ⟨v, e', _⟩ | ⟨⟨ov, k1, _⟩, _⟩
      · rw [e'] at h1; cases h1
      · rcases k1 with ⟨z, _⟩ | ⟨_, c, e1, o, q, d⟩
        · rw [h2] at z; cases z
        · rw [h3] at e1; cases e1
          exact ⟨o, q, fun xs n z => by rw [d] at z; cases z⟩
  obtain ⟨o, e, n⟩ := key
  rw [ho] at e; cases e
  exact n _ _ rfl
/- the cell of a list of ints that is not changed any more -/
theorem cell_list {X : Cx} {ρ : List (Str × Ent)} {x : Str} {ns : List Int} {pl : Str × Ent} (F : Fine X) (ok : Ok X [] ρ X.sE) (hh : X.B.h₁ = X.sE.heap) (hT : X.B.T = slotsOf X.env ρ) (hx : (x, Ent.val false (.list (ns.map .int))) ∈ ρ) (hk : X.env.kindOf x = some .cell) (hpl : pl ∈ ρ) (hkl : X.env.kindOf pl.1 = some .local) :
    ∃ c, X.env.cells.lookup x = some c ∧ CellIs X.B c (.tmp true (.list (ns.map .int))) := by
  have hm := ns_loc ok hpl hkl
  rcases ok.ent _ hx with ⟨v, z, _⟩ | ⟨⟨ov, h1, v, rfl, r⟩, _⟩
  · cases z
  rcases h1 with ⟨z, _⟩ | ⟨_, c, e1, n⟩
  · have z : X.env.kindOf x = some .local := z
    rw [hk] at z; cases z
  have e1 : X.env.cells.lookup x = some c := e1
  refine ⟨c, e1, fun h k => ?_⟩
  rw [hh, hT] at k
  cases r with
  | @list a us _ hl hw hr =>
    have oc := cell_out F ok hx rfl e1 n hm
    have oa := seq_out ok hl hm
    obtain ⟨o, g, d⟩ := n
    have hl' : h.PlainList a us.toArray := hl.at fun o e => k.keep _ _ oa e
    refine ⟨_, ⟨o, k.keep _ _ oc g, d⟩, fun W => ⟨_, rfl, ⟨a, us, rfl, hl', reps_ints_any hr⟩, fun b e => ?_⟩⟩
    cases e
    obtain ⟨_, ho⟩ := hl'
    exact ⟨_, ho⟩
/- the cell of a value -/
theorem cell_val {X : Cx} {ρ : List (Str × Ent)} {x : Str} {v : Value} {pl : Str × Ent} (F : Fine X) (ok : Ok X [] ρ X.sE) (hh : X.B.h₁ = X.sE.heap) (hT : X.B.T = slotsOf X.env ρ) (hx : (x, Ent.val false (.val v)) ∈ ρ) (hk : X.env.kindOf x = some .cell) (hpl : pl ∈ ρ) (hkl : X.env.kindOf pl.1 = some .local) :
    ∃ c, X.env.cells.lookup x = some c ∧ CellIs X.B c (.val true (.val v)) := by
  have hm := ns_loc ok hpl hkl
  rcases ok.ent _ hx with ⟨v, z, _⟩ | ⟨⟨ov, h1, v, rfl, r⟩, _⟩
  · cases z
  rcases h1 with ⟨z, _⟩ | ⟨_, c, e1, n⟩
  · have z : X.env.kindOf x = some .local := z
    rw [hk] at z; cases z
  have e1 : X.env.cells.lookup x = some c := e1
  refine ⟨c, e1, fun h k => ?_⟩
  rw [hh, hT] at k
  cases r with
  | val =>
    have oc := cell_out F ok hx rfl e1 n hm
    obtain ⟨o, g, d⟩ := n
    exact ⟨_, ⟨o, k.keep _ _ oc g, d⟩, fun W => ⟨_, rfl, .val _⟩⟩
/- a closure of one cell -/
theorem cloOk_one {B : Base} {x : Str} {c : Addr} {e : Ent} (K : CellIs B c e) {h : Heap} (k : Ext B.T B.h₁ h) (W : List Addr) : CloOk W h [(x, c)] [(x, e)] := by
  have one : ∀ y z, ([(x, c)] : List (Str × Addr)).lookup y = some z → y = x ∧ z = c := fun y z e => by
    rw [List.lookup_cons] at e
    cases q : y == x with
    | true => rw [q] at e; cases e; exact ⟨by simpa using q, rfl⟩
    | false => rw [q] at e; cases e
  obtain ⟨v, n, r⟩ := K h k
  refine ⟨fun y z c e1 e2 => (one y c e1).1.trans (one z c e2).1.symm, fun y z e => ?_, fun y e' hm zz1 => ?_⟩
  · obtain ⟨o, ho, _⟩ := n; rw [(one y z e).2]; exact ⟨o, ho⟩
  · rcases List.mem_cons.mp hm with z | z
    · cases z; exact ⟨c, v, by rw [List.lookup_cons_self], n, r W⟩
    · cases z
/- a lambda with a closure, called -/
theorem callV_lamC {X : Cx} {W : List Addr} {a : Addr} {fd : FuncData} {as : List Arg} {body : Expr} {ds : List D} {l : Lv} {d : D} {ρp ρ₀ ρ₁ : List (Str × Ent)} {n : Nat} (hn : n + 1 ≤ X.n)
    (fb : FnB X.B a fd) (hbody : fd.body = .expr body) (hp : fd.params = ⟨[], as, Option.none, [], [], Option.none, []⟩) (hd : fd.defaults = .none) (hc : ∀ h, Ext X.B.T X.B.h₁ h → CloOk W h fd.closure ρp)
    (nd : (as.map (·.arg)).Nodup) (lo : LayOf X.B ρp fd.scope.names ρ₀) (pu : Puts ρ₀ (as.map (·.arg)) ds ρ₁)
    (run : ∀ X' : Cx, X'.B = X.B → X'.n = n → X'.T = [] → X'.κ = closable fd.scope.names → Fine X' → Ev X' W ρ₁ l body d) : CallV X W (.ref a) ds l d := by
  intro s ρ vs F hs hr
  have hl : vs.length = as.length := by rw [hr.length, ← pu.len, List.length_map]
  refine wpAny_call ?_
  refine call_lam (n := n) (T := []) (F.room.less hn) (fun zz1 h => nomatch h) (hs.base F) (fb.at (hs.base F)) hbody (bind_plain hp hd hl nd) (hc _ (hs.base F)) lo (pu.all hr.length) (by rw [zip_snd _ _ (by rw [List.length_map]; exact hl)]; exact hr.hand) hs.wal ?_
  intro env s' F' ok
  have k : SExt [] s s' := ok.ok.ext
  refine wpAny_mono (run ⟨X.B, X.A.deeper env, env, s, n, [], closable fd.scope.names⟩ rfl rfl rfl rfl F' s' ok.ok) (fun v s'' h => ?_) fun zz1 zz2 h => h.elim
  exact ⟨k.trans h.1, h.2.back k⟩
/- the same, its lists not being changed -/
theorem callR_lamC {X : Cx} {W : List Addr} {a : Addr} {fd : FuncData} {as : List Arg} {body : Expr} {ds : List D} {l : Lv} {d : D} {ρp ρ₀ ρ₁ : List (Str × Ent)} {n : Nat} (hn : n + 1 ≤ X.n)
    (fb : FnB X.B a fd) (hbody : fd.body = .expr body) (hp : fd.params = ⟨[], as, Option.none, [], [], Option.none, []⟩) (hd : fd.defaults = .none) (hc : ∀ h, Ext X.B.T X.B.h₁ h → CloOk W h fd.closure ρp)
    (nd : (as.map (·.arg)).Nodup) (lo : LayOf X.B ρp fd.scope.names ρ₀) (pu : PutsR ρ₀ (as.map (·.arg)) ds ρ₁)
    (run : ∀ X' : Cx, X'.B = X.B → X'.n = n → X'.T = [] → X'.κ = closable fd.scope.names → Fine X' → Ev X' W ρ₁ l body d) : CallR X W (.ref a) ds l d := by
  intro s ρ vs F hs hr
  have hl : vs.length = as.length := by rw [hr.length, ← pu.len, List.length_map]
  refine wpAny_call ?_
  refine call_lam (n := n) (T := []) (F.room.less hn) (fun zz1 h => nomatch h) (hs.base F) (fb.at (hs.base F)) hbody (bind_plain hp hd hl nd) (hc _ (hs.base F)) lo (pu.all hr.length) (by rw [zip_snd _ _ (by rw [List.length_map]; exact hl)]; exact hr.hand) hs.wal ?_
  intro env s' F' ok
  have k : SExt [] s s' := ok.ok.ext
  refine wpAny_mono (run ⟨X.B, X.A.deeper env, env, s, n, [], closable fd.scope.names⟩ rfl rfl rfl rfl F' s' ok.ok) (fun v s'' h => ?_) fun zz1 zz2 h => h.elim
  exact ⟨k.trans h.1, h.2.back k⟩
/- an entry is written no more -/
theorem Ok.still {X : Cx} {W : List Addr} {ρ ρ' : List (Str × Ent)} {s : Shared} {x : Str} {d : D} (ok : Ok X W ρ s) (hx : (x, Ent.val true d) ∈ ρ) (hp : Put ρ x (.val false d) ρ') : Ok X W ρ' s := by
  refine ⟨ok.ext, by rw [hp.keys]; exact ok.nd, fun p hp' => ?_, fun p hp' p₂ hp₂ a₁ ns' b ms' e1 e2 hne => ?_, ok.wal⟩
  · rcases hp.cases ok.nd p hp' with rfl | ⟨m', _⟩
    · rcases ok.ent _ hx with ⟨v, z, _⟩ | ⟨h, _⟩
      · cases z
      · exact .inr ⟨h, fun z => by cases z⟩
    · exact ok.ent _ m'
  · rcases hp.cases ok.nd p hp' with rfl | ⟨m', _⟩
    · cases e1
    · rcases hp.cases ok.nd p₂ hp₂ with rfl | ⟨m₂, _⟩
      · cases e2
      · exact ok.own p m' p₂ m₂ a₁ ns' b ms' e1 e2 hne
theorem blk_still {X : Cx} {W : List Addr} {ρ ρ' : List (Str × Ent)} {x : Str} {d : D} {sts : List Stmt} {N : Nrm} {R : Rtn} (hx : (x, Ent.val true d) ∈ ρ) (hp : Put ρ x (.val false d) ρ') (h : Blk X W ρ' sts N R) : Blk X W ρ sts N R := fun P s ok => h P s ⟨ok.ok.still hx hp, ok.prot⟩
end Mine


open PySem PySem.W PyProof.Rows PySem.W.X
set_option maxHeartbeats 4000000
set_option pp.deepTerms false
set_option pp.deepTerms.threshold 3

namespace Mine
open PySem PySem.Calls PyProof.Rows
theorem SExt.write {s₀ s : Shared} {a : Addr} {h' : Heap} {tk : Nat} (k : SExt [] s₀ s) (ha : s₀.heap.get? a = none) (hs : Heap.ExtBut a s.heap h') : SExt [] s₀ { s with heap := h', toks := tk } := ⟨k.ext.extBut ha hs, k.gens, k.os⟩
section
variable {prog : Program} {w : World} {A : Around} {l I S q : Addr} {vs : List Value} {bt : Nat → Nat → Bool} {s₀ : Shared} {KR : Nat → Value → Shared → Prop} {R : Result → Shared → Prop}
end
end Mine


open PySem PySem.W PyProof.Rows PySem.W.X
set_option maxHeartbeats 4000000
set_option pp.deepTerms false
set_option pp.deepTerms.threshold 3

namespace Mine
open PySem PySem.Calls PyProof.Rows
section
variable {prog : Program} {w : World} {A : Around} {E : Value → Shared → Prop} {s : Shared}
end
section
variable {X : Cx} {W : List Addr} {ρ : List (Str × Ent)} {c : KC} {k : KSrc}
end
end Mine


open PySem PySem.W PyProof.Rows PySem.W.X
set_option maxHeartbeats 4000000
set_option pp.deepTerms false
set_option pp.deepTerms.threshold 3

namespace Mine
open PySem PySem.Calls PyProof.Rows
noncomputable abbrev Cx.in1 (X : Cx) : Cx := { X with A := X.A.in1, n := X.n - 1 }
section
variable {X : Cx} {W : List Addr} {ρ : List (Str × Ent)} {c : KC} {k : KSrc}
/- b(e, key=ke, ..) for a builtin b: what follows the keywords' expressions -/
theorem builtin_kw {s : Shared} {g : Str} {id : String} {e : Expr} {kws : List Keyword} {p1 pos : Pos} {d : D} {Q : Value → Shared → Prop} (F : Fine X) (ok : Ok X W ρ s) (hg : (g, Ent.gl (.builtin id)) ∈ ρ) (hok : okName g = true) (he : Ev X W ρ .s e d) (hns : starEach [e] X.env = [(false, eval e X.env)])
    (hall : (backToKw pos (keywordEach kws X.env)).all (·.1.isSome) = true) (hkw : (backToKw pos (keywordEach kws X.env)).any (·.1.isNone) = false)
    (h : ∀ v s₁, SExt [] s s₁ → Rep W s₁.heap v d → wpAny X.M X.A (evalAll ((backToKw pos (keywordEach kws X.env)).map (·.2))) (fun kvs s₂ => wpAny X.M X.A (call (.builtin id) [v] (((backToKw pos (keywordEach kws X.env)).filterMap (·.1)).zip kvs)) Q NoE s₂) NoE s₁) :
    wpAny X.M X.A (eval (.Call (.Name g p1) [e] kws pos) X.env) Q NoE s := by
  show wpAny X.M X.A (eval (.Name g p1) X.env >>= fun v => callWith pos v [] (backTo pos (starEach [e] X.env)) (backToKw pos (keywordEach kws X.env))) _ _ s
  refine wpAny_bind (wpAny_mono (ev_gl F hg hok s ok) (fun v s₁ h₁ => ?_) fun zz1 zz2 x => x)
  have r : Rep W s₁.heap v (.val (.builtin id)) := h₁.2
  cases r
  refine callWith_kw ?_ (by rw [hns]; rfl) (by rw [hns]; rfl) hall hkw
  refine wpAny_items_cons (wpAny_mono (he s₁ (ok.mono h₁.1)) (fun v s₂ h₂ => wpAny_items_nil ?_) fun zz1 zz2 x => x) hns
  exact h v s₂ (h₁.1.trans h₂.1) h₂.2

/- sorted(y, key=x) for a class x of keys -/
theorem ev_sortK {y x : Str} {yb xb : Bool} {ds es : List D} {lt : Nat → Nat → Bool} {a1 a2 : Arg} {q1 q2 q3 q4 p1 p2 p3 kp pos : Pos}
    (F : Fine X) (hn : 3 ≤ X.n) (K : KIn X.B c k) (ini : InitSt k.stI a1 a2 q1 q2 q3 q4) (hg : (Str.ofString "sorted", Ent.gl (.builtin "sorted")) ∈ ρ) (hy : (y, Ent.val yb (.list ds)) ∈ ρ) (hoky : okName y = true) (hx : (x, Ent.val xb (.val (.ref c.C))) ∈ ρ) (hokx : okName x = true)
    (hz : ds.length ≤ 64) (hpd : ∀ d ∈ ds, d.kept = true) (O : SOrd lt) (he : ∀ p : List Nat, p.Perm (List.range ds.length) → p.Pairwise (Bf lt) → (p.map fun i => ds.getD i .none) = es)
    (hc : ∀ (N : List Addr) (i j : Nat) a b, ds[i]? = some a → ds[j]? = some b → CallV X.in2 N (.ref c.f1) [.key c.C a, .key c.C b] .f (.bool (lt i j))) :
    Ev X W ρ .f (.Call (.Name (Str.ofString "sorted") p1) [.Name y p2] [⟨some (Str.ofString "key"), .Name x p3, kp⟩] pos) (.list es) := fun s ok => by
  refine builtin_kw F ok hg (by decide +kernel) (ev_val F hy hoky) (by rfl) (by rfl) (by rfl) fun v s1 k1 r1 => kws_cons ?_
  have ok1 := ok.mono k1
  refine wpAny_mono (ev_val F hx hokx s1 ok1) (fun xv s2 h2 => kws_nil ?_) fun zz1 zz2 z => z
  have r : Rep W s2.heap xv (.val (.ref c.C)) := h2.2
  cases r
  have ok2 := ok1.mono h2.1
  have r2 := r1.ext h2.1.ext
  cases r2 with
  | @list l vs _ hl hw hr =>
    refine wpAny_mono (sortedK_v (ks := ds.map fun d => .key c.C d) (b := false) (es := es) F ok2 (by lia) O hl hr hz (List.length_map _) (ksk_s1 _ _) (fun y => ksk_l1 _ _) (fun y => ksk_t1 _ _) (fun N i d kk e1 e2 => ?_) (keyLt_keys K fun N i j a b e1 e2 => hc _ i j a b e1 e2) he) (fun v s' h => ⟨(k1.trans h2.1).trans h.1, h.2.back (k1.trans h2.1)⟩) fun zz1 zz2 z => z
    rw [List.getElem?_map, e1] at e2
    cases e2
    have m := callV_make (X := X.in2) (W := N ++ W) (n := 0) (d := d) K ini (by show 0 + 2 ≤ X.n - 1; lia) (hpd d (List.mem_of_getElem? e1))
    exact fun s ρ vs F hs hr => wpAny_mono (m s ρ vs F hs hr.toTs) (fun v s' h => ⟨h.1, h.2.1⟩) fun zz1 zz2 z => z
end
end Mine



namespace Mine
open PySem PyProof.Rows
/- ### the dictionary's order -/
noncomputable abbrev lexG (g : Int → Nat) : List Int → List Int → Bool := lexLt (fun a b => g a == g b) (fun a b => decide (g a < g b))
theorem lexG_nil {g : Int → Nat} {l : List Int} : lexG g l [] = false := by cases l <;> rfl
theorem lexG_cons {g : Int → Nat} {x y : Int} {l m : List Int} : lexG g (x :: l) (y :: m) = true ↔ g x < g y ∨ (g x = g y ∧ lexG g l m = true) := by
  show (if (g x == g y) = true then lexG g l m else decide (g x < g y)) = true ↔ _
  by_cases h : g x = g y
  · rw [if_pos (by simpa using h)]
    exact ⟨fun z => .inr ⟨h, z⟩, fun z => z.elim (fun z => absurd h (Nat.ne_of_lt z)) fun z => z.2⟩
  · rw [if_neg (by simpa using h), decide_eq_true_iff]
    exact ⟨.inl, fun z => z.elim id fun z => absurd z.1 h⟩
theorem lexG_irr {g : Int → Nat} (l : List Int) : lexG g l l = false := by
  induction l with
  | nil => rfl
  | cons x l ih =>
    show (if (g x == g x) = true then lexG g l l else decide (g x < g x)) = false
    rw [if_pos (beq_self_eq_true _)]; exact ih
theorem lexG_tr {g : Int → Nat} : ∀ a b c : List Int, lexG g a b = true → lexG g b c = true → lexG g a c = true
  | _, [], _, h1, _ => by rw [lexG_nil] at h1; cases h1
  | _, _ :: _, [], _, h2 => by rw [lexG_nil] at h2; cases h2
  | [], _ :: _, _ :: _, _, _ => rfl
  | x :: a, y :: b, z :: c, h1, h2 => by
    rw [lexG_cons] at *
    rcases h1 with h1 | ⟨e1, h1⟩
    · rcases h2 with h2 | ⟨e2, h2⟩
      · exact .inl (Nat.lt_trans h1 h2)
      · exact .inl (e2 ▸ h1)
    · rcases h2 with h2 | ⟨e2, h2⟩
      · exact .inl (e1 ▸ h2)
      · exact .inr ⟨e1.trans e2, lexG_tr a b c h1 h2⟩
theorem lexG_neg {g : Int → Nat} : ∀ a b c : List Int, lexG g a c = true → lexG g a b = true ∨ lexG g b c = true
  | _, _, [], h => by rw [lexG_nil] at h; cases h
  | [], [], _ :: _, _ => .inr rfl
  | _ :: _, [], _ :: _, _ => .inr rfl
  | [], _ :: _, _ :: _, _ => .inl rfl
  | x :: a, y :: b, z :: c, h => by
    rw [lexG_cons] at h
    rw [lexG_cons, lexG_cons]
    rcases Nat.lt_trichotomy (g x) (g y) with p | p | p
    · exact .inl (.inl p)
    · rcases h with h | ⟨e, h⟩
      · exact .inr (.inl (p ▸ h))
      · rcases lexG_neg a b c h with h | h
        · exact .inl (.inr ⟨p, h⟩)
        · exact .inr (.inr ⟨p ▸ e, h⟩)
    · rcases h with h | ⟨e, h⟩
      · exact .inr (.inl (Nat.lt_trans p h))
      · exact .inr (.inl (e ▸ p))
theorem lexG_ord (g : Int → Nat) (R : Nat → List Int) : SOrd fun i j => lexG g (R i) (R j) := ⟨fun a => lexG_irr _, fun a b c => lexG_tr _ _ _, fun a b c => lexG_neg _ _ _⟩
theorem num_ord (f : Nat → Nat) : SOrd fun i j => decide (f i < f j) :=
  ⟨fun a => decide_eq_false (Nat.lt_irrefl _), fun a b c h1 h2 => decide_eq_true (Nat.lt_trans (of_decide_eq_true h1) (of_decide_eq_true h2)), fun a b c h => by
    by_cases z : f a < f b
    · exact .inl (decide_eq_true z)
    · exact .inr (decide_eq_true (Nat.lt_of_le_of_lt (Nat.le_of_not_lt z) (of_decide_eq_true h)))⟩
theorem Bf.ne {lt : Nat → Nat → Bool} (O : SOrd lt) {a b : Nat} (h : Bf lt a b) : a ≠ b := fun e => by
  subst e
  rcases h with h | ⟨_, h⟩
  · rw [O.irr] at h; cases h
  · exact Nat.lt_irrefl _ h
/- the one stable order, by its places -/
theorem only {lt : Nat → Nat → Bool} (O : SOrd lt) {n : Nat} {p q : List Nat} (hp : p.Perm (List.range n)) (hs : p.Pairwise (Bf lt)) (hq : q.Pairwise (Bf lt)) (hm : ∀ i, i ∈ q ↔ i < n) : p = q := by
  have hn : q.Nodup := hq.imp fun h => h.ne O
  have hq' : q.Perm (List.range n) := (List.perm_ext_iff_of_nodup hn List.nodup_range).mpr fun a => by rw [hm, List.mem_range]
  rw [stab_only O hp hs, stab_only O hq' hq]
/- ### letters -/
noncomputable abbrev letter (a : Int) : Int := a.fdiv 2
noncomputable abbrev gOf (al : List Int) (a : Int) : Nat := al.idxOf (letter a)
theorem idx_lt {al : List Int} (nd : al.Nodup) : al.Pairwise fun b c => al.idxOf b < al.idxOf c := by
  rw [List.pairwise_iff_getElem]
  intro i j hi hj hij
  have e : ∀ k (hk : k < al.length), al.idxOf al[k] = k := fun k hk => by
    have h1 : al.idxOf al[k] < al.length := List.idxOf_lt_length_iff.mpr (List.getElem_mem hk)
    exact (List.getElem_inj nd).mp (List.getElem_idxOf h1)
  rw [e i hi, e j hj]; exact hij
/- the signs, letter by letter -/
noncomputable def dueI (al : List Int) (S : Nat → Int) (I : List Nat) : List Nat := al.flatMap fun c => I.filter fun i => letter (S i) == c
theorem dueI_ok {al : List Int} {S : Nat → Int} {I : List Nat} (nd : al.Nodup) (hI : I.Pairwise (· < ·)) : (dueI al S I).Pairwise (Bf fun i j => decide (gOf al (S i) < gOf al (S j))) := by
  unfold dueI
  rw [List.pairwise_flatMap]
  refine ⟨fun c hc => ?_, (idx_lt nd).imp fun {b c} h x hx y hy => .inl (decide_eq_true ?_)⟩
  · refine (hI.filter _).imp_of_mem fun {x y} hx hy h => .inr ⟨decide_eq_false ?_, h⟩
    have e1 := (List.mem_filter.mp hx).2
    have e2 := (List.mem_filter.mp hy).2
    unfold gOf
    rw [eq_of_beq e1, eq_of_beq e2]; exact Nat.lt_irrefl _
  · have e1 := (List.mem_filter.mp hx).2
    have e2 := (List.mem_filter.mp hy).2
    unfold gOf
    rw [eq_of_beq e1, eq_of_beq e2]; exact h
theorem dueI_mem {al : List Int} {S : Nat → Int} {I : List Nat} (h : ∀ i ∈ I, letter (S i) ∈ al) (i : Nat) : i ∈ dueI al S I ↔ i ∈ I := by
  unfold dueI
  rw [List.mem_flatMap]
  refine ⟨fun ⟨c, _, z⟩ => (List.mem_filter.mp z).1, fun z => ⟨_, h i z, List.mem_filter.mpr ⟨z, beq_self_eq_true _⟩⟩⟩
noncomputable def dueV (al : List Int) (ss : List Int) : List Int := al.flatMap fun c => ss.filter fun a => letter a == c
theorem dueV_map (al : List Int) (S : Nat → Int) (I : List Nat) : (dueI al S I).map S = dueV al (I.map S) := by
  unfold dueI dueV
  rw [List.map_flatMap]
  congr 1
  funext c
  rw [List.filter_map]; rfl
/- what sorted(signs, key=key) must be -/
theorem due_only {al ss : List Int} (nd : al.Nodup) (h : ∀ a ∈ ss, letter a ∈ al) {p : List Nat} (hp : p.Perm (List.range ss.length)) (hs : p.Pairwise (Bf fun i j => decide (gOf al (ss.getD i 0) < gOf al (ss.getD j 0)))) :
    p.map (fun i => ss.getD i 0) = dueV al ss := by
  have hm : ∀ i ∈ List.range ss.length, letter (ss.getD i 0) ∈ al := fun i hi => by
    rw [List.mem_range] at hi
    rw [List.getD_eq_getElem?_getD, List.getElem?_eq_getElem hi]; exact h _ (List.getElem_mem hi)
  have e : p = dueI al (fun i => ss.getD i 0) (List.range ss.length) := only (num_ord _) hp hs (dueI_ok nd List.pairwise_lt_range) fun i => by rw [dueI_mem hm, List.mem_range]
  rw [e, dueV_map]
  congr 1
  apply List.ext_getElem
  · simp
  · intro i h1 h2; simp [h2]

/- ### shelves -/
noncomputable abbrev partP (d : Nat) (c : Int) (r : List Int) : Bool := decide (d < r.length) && letter (r.getD d 0) == c
noncomputable def shelfI (al : List Int) (R : Nat → List Int) : Nat → Nat → List Nat → List Nat
  | 0, d, I => I.filter fun i => (R i).length == d
  | m + 1, d, I => (I.filter fun i => (R i).length == d) ++ al.flatMap fun c => shelfI al R m (d + 1) (I.filter fun i => partP d c (R i))
noncomputable def shelfV (al : List Int) : Nat → Nat → List (List Int) → List (List Int)
  | 0, d, rs => rs.filter fun r => r.length == d
  | m + 1, d, rs => (rs.filter fun r => r.length == d) ++ al.flatMap fun c => shelfV al m (d + 1) (rs.filter fun r => partP d c r)
theorem shelfV_map (al : List Int) (R : Nat → List Int) : ∀ (m d : Nat) (I : List Nat), (shelfI al R m d I).map R = shelfV al m d (I.map R)
  | 0, d, I => by unfold shelfI shelfV; rw [List.filter_map]; rfl
  | m + 1, d, I => by
    unfold shelfI shelfV
    rw [List.map_append, List.filter_map, List.map_flatMap]
    congr 1
    congr 1
    funext c
    rw [shelfV_map al R m, List.filter_map]; rfl
theorem shelfV_nil (al : List Int) : ∀ (m d : Nat), shelfV al m d [] = []
  | 0, d => rfl
  | m + 1, d => by
    unfold shelfV
    show [] ++ al.flatMap (fun c => shelfV al m (d + 1) []) = []
    rw [shelfV_nil al m, List.nil_append]
    induction al with
    | nil => rfl
    | cons _ _ ih => rw [List.flatMap_cons, ih]; rfl
theorem shelfI_sub {al : List Int} {R : Nat → List Int} : ∀ (m d : Nat) (I : List Nat) (i : Nat), i ∈ shelfI al R m d I → i ∈ I ∧ d ≤ (R i).length
  | 0, d, I, i, h => by
    have h := List.mem_filter.mp h
    exact ⟨h.1, Nat.le_of_eq (eq_of_beq h.2).symm⟩
  | m + 1, d, I, i, h => by
    unfold shelfI at h
    rcases List.mem_append.mp h with h | h
    · have h := List.mem_filter.mp h
      exact ⟨h.1, Nat.le_of_eq (eq_of_beq h.2).symm⟩
    · obtain ⟨c, _, h⟩ := List.mem_flatMap.mp h
      have z := shelfI_sub m (d + 1) _ i h
      exact ⟨(List.mem_filter.mp z.1).1, Nat.le_of_succ_le z.2⟩
theorem getD_mem {r : List Int} {d : Nat} (h : d < r.length) : r.getD d 0 ∈ r := by
  rw [List.getD_eq_getElem?_getD, List.getElem?_eq_getElem h]; exact List.getElem_mem h
theorem shelfI_mem {al : List Int} {R : Nat → List Int} : ∀ (m d : Nat) (I : List Nat), (∀ i ∈ I, d ≤ (R i).length ∧ (R i).length ≤ d + m ∧ ∀ a ∈ R i, letter a ∈ al) → ∀ i ∈ I, i ∈ shelfI al R m d I
  | 0, d, I, h, i, hi => List.mem_filter.mpr ⟨hi, by rw [beq_iff_eq]; exact Nat.le_antisymm (h i hi).2.1 (h i hi).1⟩
  | m + 1, d, I, h, i, hi => by
    unfold shelfI
    obtain ⟨h1, h2, h3⟩ := h i hi
    rcases Nat.eq_or_lt_of_le h1 with e | e
    · exact List.mem_append.mpr (.inl (List.mem_filter.mpr ⟨hi, by rw [beq_iff_eq]; exact e.symm⟩))
    · refine List.mem_append.mpr (.inr (List.mem_flatMap.mpr ⟨_, h3 _ (getD_mem e), shelfI_mem m (d + 1) _ (fun j hj => ?_) i (List.mem_filter.mpr ⟨hi, by rw [Bool.and_eq_true]; exact ⟨decide_eq_true e, beq_self_eq_true _⟩⟩)⟩))
      have hj := List.mem_filter.mp hj
      have k := h j hj.1
      have kd : d < (R j).length := of_decide_eq_true (Bool.and_eq_true _ _ ▸ hj.2).1
      exact ⟨kd, by rw [Nat.add_assoc, Nat.add_comm 1 m]; exact k.2.1, k.2.2⟩
/- rows of one shelf differ behind the place d alone -/
noncomputable abbrev AlikeTo (g : Int → Nat) (d : Nat) (a b : List Int) : Prop := (lexG g a b = lexG g (a.drop d) (b.drop d))
theorem drop_step {r : List Int} {d : Nat} (h : d < r.length) : r.drop d = r.getD d 0 :: r.drop (d + 1) := by
  rw [List.getD_eq_getElem?_getD, List.getElem?_eq_getElem h]; exact List.drop_eq_getElem_cons h
theorem shelfI_ok {al : List Int} {R : Nat → List Int} (nd : al.Nodup) : ∀ (m d : Nat) (I : List Nat), I.Pairwise (· < ·) → (∀ i ∈ I, ∀ j ∈ I, AlikeTo (gOf al) d (R i) (R j)) → (shelfI al R m d I).Pairwise (Bf fun i j => lexG (gOf al) (R i) (R j)) := by
  intro m
  have ends : ∀ (d : Nat) (I : List Nat), I.Pairwise (· < ·) → (∀ i ∈ I, ∀ j ∈ I, AlikeTo (gOf al) d (R i) (R j)) → (I.filter fun i => (R i).length == d).Pairwise (Bf fun i j => lexG (gOf al) (R i) (R j)) := fun d I hI hA => by
    refine (hI.filter _).imp_of_mem fun {x y} hx hy h => .inr ⟨?_, h⟩
    have hx := List.mem_filter.mp hx
    have hy := List.mem_filter.mp hy
    show lexG (gOf al) (R y) (R x) = false
    rw [hA y hy.1 x hx.1, List.drop_of_length_le (l := R x) (Nat.le_of_eq (eq_of_beq hx.2)), lexG_nil]
  induction m with
  | zero => exact ends
  | succ m ih =>
    intro d I hI hA
    unfold shelfI
    rw [List.pairwise_append, List.pairwise_flatMap]
    have step : ∀ {c : Int} {i : Nat}, i ∈ I.filter (fun i => partP d c (R i)) → i ∈ I ∧ d < (R i).length ∧ letter ((R i).getD d 0) = c := fun hi => by
      have h := List.mem_filter.mp hi
      have h2 := Bool.and_eq_true _ _ ▸ h.2
      exact ⟨h.1, of_decide_eq_true h2.1, eq_of_beq h2.2⟩
    refine ⟨ends d I hI hA, ⟨fun c hc => ih (d + 1) _ (hI.filter _) fun i hi j hj => ?_, (idx_lt nd).imp fun {b c} h x hx y hy => .inl ?_⟩, fun x hx y hy => .inl ?_⟩
    · obtain ⟨i1, i2, i3⟩ := step hi
      obtain ⟨j1, j2, j3⟩ := step hj
      show _ = _
      rw [hA i i1 j j1, drop_step i2, drop_step j2, Bool.eq_iff_iff, lexG_cons]
      unfold gOf
      rw [i3, j3]
      exact ⟨fun z => z.elim (fun z => absurd z (Nat.lt_irrefl _)) fun z => z.2, fun z => .inr ⟨rfl, z⟩⟩
    · have hx := List.mem_filter.mp hx
      obtain ⟨c, _, hy⟩ := List.mem_flatMap.mp hy
      obtain ⟨j1, j2, _⟩ := step (shelfI_sub _ _ _ _ hy).1
      show lexG (gOf al) (R x) (R y) = true
      rw [hA x hx.1 y j1, List.drop_of_length_le (l := R x) (Nat.le_of_eq (eq_of_beq hx.2)), drop_step j2]; rfl
    · obtain ⟨i1, i2, i3⟩ := step (shelfI_sub _ _ _ _ hx).1
      obtain ⟨j1, j2, j3⟩ := step (shelfI_sub _ _ _ _ hy).1
      show lexG (gOf al) (R x) (R y) = true
      rw [hA x i1 y j1, drop_step i2, drop_step j2, lexG_cons]
      unfold gOf
      rw [i3, j3]
      exact .inl h
/- what sorted(rows, key=..) must be -/
theorem shelf_only {al : List Int} {rs : List (List Int)} {m : Nat} (nd : al.Nodup) (hm : ∀ r ∈ rs, r.length ≤ m ∧ ∀ a ∈ r, letter a ∈ al) {p : List Nat} (hp : p.Perm (List.range rs.length)) (hs : p.Pairwise (Bf fun i j => lexG (gOf al) (rs.getD i []) (rs.getD j []))) :
    p.map (fun i => rs.getD i []) = shelfV al m 0 rs := by
  have hR : ∀ i ∈ List.range rs.length, 0 ≤ (rs.getD i []).length ∧ (rs.getD i []).length ≤ 0 + m ∧ ∀ a ∈ rs.getD i [], letter a ∈ al := fun i hi => by
    rw [List.mem_range] at hi
    rw [List.getD_eq_getElem?_getD, List.getElem?_eq_getElem hi, Nat.zero_add]
    exact ⟨Nat.zero_le _, hm _ (List.getElem_mem hi)⟩
  have e : p = shelfI al (fun i => rs.getD i []) m 0 (List.range rs.length) := only (lexG_ord _ _) hp hs (shelfI_ok nd m 0 _ List.pairwise_lt_range fun i zz1 j zz2 => rfl) fun i =>
    ⟨fun h => List.mem_range.mp (shelfI_sub _ _ _ _ h).1, fun h => shelfI_mem m 0 _ hR i (List.mem_range.mpr h)⟩
  rw [e, shelfV_map]
  congr 1
  apply List.ext_getElem
  · simp
  · intro i h1 h2; simp [h2]

/- what one letter adds -/
noncomputable def subF (al : List Int) (m d : Nat) (rs : List (List Int)) (c : Int) : List (List Int) := match m with
  | 0 => []
  | k + 1 => shelfV al k (d + 1) (rs.filter fun r => partP d c r)
theorem shelfV_eq (al : List Int) (m d : Nat) (rs : List (List Int)) : shelfV al m d rs = (rs.filter fun r => r.length == d) ++ al.flatMap (subF al m d rs) := by
  cases m with
  | zero =>
    have e : al.flatMap (subF al 0 d rs) = [] := by
      induction al with
      | nil => rfl
      | cons _ _ ih => rw [List.flatMap_cons]; show [] ++ _ = []; rw [List.nil_append]; exact ih
    rw [e, List.append_nil]; rfl
  | succ k => rfl
theorem split_len {α : Type} (p q r : α → Bool) (h : ∀ x, r x = (p x || q x)) (hd : ∀ x, p x = true → q x = false) (l : List α) : (l.filter r).length = (l.filter p).length + (l.filter q).length := by
  induction l with
  | nil => rfl
  | cons x l ih =>
    rw [List.filter_cons, List.filter_cons, List.filter_cons, h x]
    cases hp : p x with
    | true => rw [hd x hp]; simp only [Bool.true_or, if_true, Bool.false_eq_true, if_false, List.length_cons, ih]; lia
    | false => cases hq : q x <;> simp only [Bool.or_self, Bool.or_true, Bool.false_or, if_true, Bool.false_eq_true, if_false, List.length_cons, ih] <;> lia
theorem buckets_len {al : List Int} {d : Nat} {rs : List (List Int)} (nd : al.Nodup) {f : Int → List (List Int)} (h : ∀ c, (f c).length ≤ (rs.filter fun r => partP d c r).length) : (al.flatMap f).length ≤ (rs.filter fun r => decide (d < r.length) && al.contains (letter (r.getD d 0))).length := by
  induction al with
  | nil => exact Nat.zero_le _
  | cons c al ih =>
    rw [List.nodup_cons] at nd
    rw [List.flatMap_cons, List.length_append, split_len (fun r => partP d c r) (fun r => decide (d < r.length) && al.contains (letter (r.getD d 0))) _ (fun r => ?_) fun r hr => ?_]
    · exact Nat.add_le_add (h c) (ih nd.2)
    · rw [List.contains_cons]
      show _ = ((decide (d < r.length) && letter (r.getD d 0) == c) || _)
      cases decide (d < r.length) <;> rfl
    · have hr := Bool.and_eq_true _ _ ▸ hr
      have e : letter (r.getD d 0) = c := eq_of_beq hr.2
      rw [e, Bool.and_eq_false_iff]
      exact .inr (by simpa using nd.1)
theorem part_le {al : List Int} {d : Nat} {rs : List (List Int)} (nd : al.Nodup) {f : Int → List (List Int)} (h : ∀ c, (f c).length ≤ (rs.filter fun r => partP d c r).length) : ((rs.filter fun r => r.length == d) ++ al.flatMap f).length ≤ rs.length := by
  rw [List.length_append]
  have a := buckets_len nd h
  have b := split_len (fun r => r.length == d) (fun r => decide (d < r.length) && al.contains (letter (r.getD d 0))) (fun r => (r.length == d) || (decide (d < r.length) && al.contains (letter (r.getD d 0)))) (fun zz1 => rfl) (fun r hr => by rw [eq_of_beq hr]; simp) rs
  have c := List.length_filter_le (fun r : List Int => (r.length == d) || (decide (d < r.length) && al.contains (letter (r.getD d 0)))) rs
  exact Nat.le_trans (Nat.add_le_add_left a _) (b ▸ c)
theorem shelfV_len {al : List Int} (nd : al.Nodup) : ∀ (m d : Nat) (rs : List (List Int)), (shelfV al m d rs).length ≤ rs.length
  | 0, d, rs => List.length_filter_le ..
  | m + 1, d, rs => part_le nd fun c => shelfV_len nd m (d + 1) _
theorem subF_len {al : List Int} (nd : al.Nodup) (m d : Nat) (rs : List (List Int)) (c : Int) : (subF al m d rs c).length ≤ (rs.filter fun r => partP d c r).length := by
  cases m with
  | zero => exact Nat.zero_le _
  | succ k => exact shelfV_len nd k (d + 1) _

/- ### rows and alphabet of a script -/
noncomputable abbrev sg (x : Int) : Int := x.fmod 7
noncomputable def rstep (p : List (List Int) × List Int) (x : Int) : List (List Int) × List Int := if sg x = 6 then (p.1 ++ [p.2], []) else (p.1, p.2 ++ [sg x])
noncomputable def rowsP (ns : List Int) : List (List Int) × List Int := ns.foldl rstep ([], [])
noncomputable def rowsF (ns : List Int) : List (List Int) := (rowsP ns).1 ++ [(rowsP ns).2]
theorem rowsP_snoc (ns : List Int) (x : Int) : rowsP (ns ++ [x]) = rstep (rowsP ns) x := by unfold rowsP; rw [List.foldl_append]; rfl
noncomputable def astep (al : List Int) (x : Int) : List Int := if sg x ≠ 6 ∧ letter (sg x) ∉ al then al ++ [letter (sg x)] else al
noncomputable def alphF (ns : List Int) : List Int := ns.foldl astep []
theorem alph_snoc (ns : List Int) (x : Int) : alphF (ns ++ [x]) = astep (alphF ns) x := by unfold alphF; rw [List.foldl_append]; rfl
theorem snoc_ind {α : Type} {P : List α → Prop} (h0 : P []) (hs : ∀ l x, P l → P (l ++ [x])) (l : List α) : P l := by
  have key : ∀ r : List α, P r.reverse := fun r => by
    induction r with
    | nil => exact h0
    | cons x r ih => rw [List.reverse_cons]; exact hs _ _ ih
  have := key l.reverse
  rwa [List.reverse_reverse] at this
theorem alph_nodup (ns : List Int) : (alphF ns).Nodup := by
  induction ns using snoc_ind with
  | h0 => exact List.nodup_nil
  | hs l x ih =>
    rw [alph_snoc]
    unfold astep
    split
    · rename_i h
      rw [List.nodup_append]
      exact ⟨ih, List.nodup_cons.mpr ⟨List.not_mem_nil, List.nodup_nil⟩, fun a ha b hb => by rw [List.mem_singleton.mp hb]; intro z; exact h.2 (z ▸ ha)⟩
    · exact ih
theorem alph_len (ns : List Int) : (alphF ns).length ≤ ns.length := by
  induction ns using snoc_ind with
  | h0 => exact Nat.le_refl _
  | hs l x ih =>
    rw [alph_snoc, List.length_append]
    unfold astep
    split
    · rw [List.length_append]; exact Nat.add_le_add_right ih _
    · exact Nat.le_succ_of_le ih
theorem alph_mem {ns : List Int} {x : Int} (hx : x ∈ ns) (h : sg x ≠ 6) : letter (sg x) ∈ alphF ns := by
  induction ns using snoc_ind with
  | h0 => cases hx
  | hs l y ih =>
    rw [alph_snoc]
    unfold astep
    rcases List.mem_append.mp hx with hx | hx
    · split
      · exact List.mem_append_left _ (ih hx)
      · exact ih hx
    · have e : x = y := List.mem_singleton.mp hx
      subst e
      split
      · exact List.mem_append_right _ (.head _)
      · rename_i z
        exact Decidable.not_not.mp fun q => z ⟨h, q⟩
theorem rows_facts (ns : List Int) : ((rowsP ns).1.length + ((rowsP ns).1.flatten ++ (rowsP ns).2).length ≤ ns.length) ∧ ∀ r ∈ rowsF ns, ∀ a ∈ r, ∃ x ∈ ns, a = sg x ∧ sg x ≠ 6 := by
  induction ns using snoc_ind with
  | h0 => exact ⟨Nat.le_refl _, fun r hr a ha => by rw [List.mem_singleton.mp hr] at ha; cases ha⟩
  | hs l x ih =>
    obtain ⟨h1, h2⟩ := ih
    unfold rowsF at h2 ⊢
    rw [rowsP_snoc]
    unfold rstep
    split
    · rename_i h
      refine ⟨?_, fun r hr a ha => ?_⟩
      · simp only [List.length_append, List.flatten_append, List.flatten_cons, List.flatten_nil, List.length_singleton, List.append_nil, List.length_nil] at h1 ⊢
        lia
      · rcases List.mem_append.mp hr with hr | hr
        · obtain ⟨y, hy, e⟩ := h2 r hr a ha
          exact ⟨y, List.mem_append_left _ hy, e⟩
        · rw [List.mem_singleton.mp hr] at ha; cases ha
    · rename_i h
      refine ⟨?_, fun r hr a ha => ?_⟩
      · simp only [List.length_append, List.length_singleton] at h1 ⊢
        lia
      · rcases List.mem_append.mp hr with hr | hr
        · obtain ⟨y, hy, e⟩ := h2 r (List.mem_append_left _ hr) a ha
          exact ⟨y, List.mem_append_left _ hy, e⟩
        · rw [List.mem_singleton.mp hr] at ha
          rcases List.mem_append.mp ha with ha | ha
          · obtain ⟨y, hy, e⟩ := h2 _ (List.mem_append_right _ (.head _)) a ha
            exact ⟨y, List.mem_append_left _ hy, e⟩
          · exact ⟨x, List.mem_append_right _ (.head _), List.mem_singleton.mp ha, h⟩
theorem rows_len (ns : List Int) : (rowsF ns).length ≤ ns.length + 1 := by
  have := (rows_facts ns).1
  unfold rowsF; rw [List.length_append, List.length_singleton]; lia
theorem flat_len (ns : List Int) : (rowsF ns).flatten.length ≤ ns.length := by
  have := (rows_facts ns).1
  unfold rowsF; rw [List.flatten_append, List.flatten_cons, List.flatten_nil, List.append_nil]; lia
theorem row_len {ns : List Int} {r : List Int} (h : r ∈ rowsF ns) : r.length ≤ ns.length := by
  obtain ⟨s, t, e⟩ := List.append_of_mem h
  have := flat_len ns
  rw [e, List.flatten_append, List.flatten_cons, List.length_append, List.length_append] at this
  lia
end Mine


open PySem PySem.W PyProof.Rows PySem.W.X

namespace Mine
open PySem PySem.Calls PyProof.Rows


noncomputable abbrev pg := PySem.Challenge.pw_dm0116_10
noncomputable abbrev stC : Stmt := stAt pg 1
noncomputable def kS : KSrc := (kOf (st0 stC)).get (by rfl)
theorem isM_i : IsM kS kS.stI "__init__" false := ⟨fun zz1 => rfl, rfl, rfl, fun zz1 => rfl, fr_of (by decide +kernel), fun zz1 => by kernel_rfl, by kernel_rfl, by kernel_rfl⟩
theorem isM_lt : IsM kS kS.stLt "__lt__" true := ⟨fun zz1 => rfl, rfl, rfl, fun zz1 => rfl, fr_of (by decide +kernel), fun zz1 => by kernel_rfl, by kernel_rfl, by kernel_rfl⟩
theorem isM_gt : IsM kS kS.stGt "__gt__" true := ⟨fun zz1 => rfl, rfl, rfl, fun zz1 => rfl, fr_of (by decide +kernel), fun zz1 => by kernel_rfl, by kernel_rfl, by kernel_rfl⟩
theorem isM_eq : IsM kS kS.stEq "__eq__" true := ⟨fun zz1 => rfl, rfl, rfl, fun zz1 => rfl, fr_of (by decide +kernel), fun zz1 => by kernel_rfl, by kernel_rfl, by kernel_rfl⟩
theorem isM_le : IsM kS kS.stLe "__le__" true := ⟨fun zz1 => rfl, rfl, rfl, fun zz1 => rfl, fr_of (by decide +kernel), fun zz1 => by kernel_rfl, by kernel_rfl, by kernel_rfl⟩
theorem isM_ge : IsM kS kS.stGe "__ge__" true := ⟨fun zz1 => rfl, rfl, rfl, fun zz1 => rfl, fr_of (by decide +kernel), fun zz1 => by kernel_rfl, by kernel_rfl, by kernel_rfl⟩
theorem kS_ok : kS.Ok := ⟨isM_i, isM_lt, isM_gt, isM_eq, isM_le, isM_ge, rfl, by kernel_rfl, by kernel_rfl, by kernel_rfl, by kernel_rfl, by kernel_rfl, by kernel_rfl, by kernel_rfl, by kernel_rfl, by kernel_rfl, fun x hx => (fr_of (b := true) (by decide +kernel) x hx).2, fun zz1 => by kernel_rfl⟩
theorem cmp_st : CmpSt stC kS (argOf stC 0) (retPos (st1 stC)).1 (retPos (st1 stC)).2 := ⟨rfl, rfl, rfl, rfl⟩
theorem init_st : InitSt kS.stI (argOf kS.stI 0) (argOf kS.stI 1) (iPos (st0 kS.stI)).p1 (iPos (st0 kS.stI)).p2 (iPos (st0 kS.stI)).p3 (iPos (st0 kS.stI)).p4 := ⟨⟨rfl, by decide +kernel, rfl, rfl, rfl, by decide +kernel⟩, rfl, rfl, rfl, rfl⟩
theorem m_lt : CmpM kS.stLt .Lt (argOf kS.stLt 0) (argOf kS.stLt 1) (cPos (st0 kS.stLt)).kk (cPos (st0 kS.stLt)).p1 (cPos (st0 kS.stLt)).p2 (cPos (st0 kS.stLt)).p3 (cPos (st0 kS.stLt)).p4 (cPos (st0 kS.stLt)).p5 (cPos (st0 kS.stLt)).p6 (cPos (st0 kS.stLt)).p7 (cPos (st0 kS.stLt)).p8 (cPos (st0 kS.stLt)).p9 := ⟨⟨rfl, by decide +kernel, rfl, rfl, rfl, by decide +kernel⟩, rfl, rfl, rfl, rfl⟩
theorem m_eq : CmpM kS.stEq .Eq (argOf kS.stEq 0) (argOf kS.stEq 1) (cPos (st0 kS.stEq)).kk (cPos (st0 kS.stEq)).p1 (cPos (st0 kS.stEq)).p2 (cPos (st0 kS.stEq)).p3 (cPos (st0 kS.stEq)).p4 (cPos (st0 kS.stEq)).p5 (cPos (st0 kS.stEq)).p6 (cPos (st0 kS.stEq)).p7 (cPos (st0 kS.stEq)).p8 (cPos (st0 kS.stEq)).p9 := ⟨⟨rfl, by decide +kernel, rfl, rfl, rfl, by decide +kernel⟩, rfl, rfl, rfl, rfl⟩
noncomputable abbrev stQ : Stmt := stAt pg 3
noncomputable abbrev stL : Stmt := stAt pg 4
/- x = sorted(y, key=lambda ..) as x = g(lambda ..) -/
noncomputable def kwLam : Stmt → Stmt
  | .Assign t (.Call f _ [⟨_, v, _⟩] q) p => .Assign t (.Call f [v] [] q) p
  | s => s
noncomputable def stN (st : Stmt) (i : Nat) : Stmt := (fBody st).getD i (.Pass default)
noncomputable abbrev stK : Stmt := stN stL 5
noncomputable abbrev stT : Stmt := kwLam (stN stL 9)
structure Lw (B : Base) (aC aQ : Addr) : Prop where
  len : GlobIs B (Str.ofString "len") (.builtin "len")
  sorted : GlobIs B (Str.ofString "sorted") (.builtin "sorted")
  gC : GlobIs B (Str.ofString "cmp_to_key") (.ref aC)
  gQ : GlobIs B (Str.ofString "_law_shelf") (.ref aQ)
  dQ : DefAt B aQ stQ
theorem Lw.re {X X' : Cx} {S : List Addr} {aC aQ : Addr} (G : Lw X.B aC aQ) (m : Mv2 X X' S) : Lw X'.B aC aQ :=
  ⟨m.glob _ _ G.len, m.glob _ _ G.sorted, m.glob _ _ G.gC, m.glob _ _ G.gQ, m.defs _ _ G.dQ⟩
noncomputable abbrev listD (l : List Int) : D := .list (l.map .int)
noncomputable abbrev rowsD (l : List (List Int)) : D := .list (l.map listI)
/- the names of law -/
noncomputable abbrev ρs (ns : List Int) (aC aQ : Addr) (ro x si du te al ke : Ent) : List (Str × Ent) :=
  [(Str.ofString "script", .val true (listD ns)), (Str.ofString "rows", ro), (Str.ofString "x", x), (Str.ofString "signs", si), (Str.ofString "due", du), (Str.ofString "told", te), (Str.ofString "alphabet", al), (Str.ofString "key", ke),
   (Str.ofString "cmp_to_key", .gl (.ref aC)), (Str.ofString "sorted", .gl (.builtin "sorted")), (Str.ofString "_law_shelf", .gl (.ref aQ))]
theorem pl_row (l : List Int) : Pl 1 (listI l) (.list (l.map .int)) := by
  have := Pl.list (n := 0) (l := l.map fun a => ((D.int a, PyData.int a) : D × PyData)) fun x h => by
    obtain ⟨a, _, rfl⟩ := List.mem_map.mp h
    exact .int _
  rwa [List.map_map, List.map_map] at this
theorem pl_rows (ls : List (List Int)) : Pl 2 (rowsD ls) (.list (ls.map fun l => .list (l.map .int))) := by
  have := Pl.list (n := 1) (l := ls.map fun l => ((listI l, PyData.list (l.map .int)) : D × PyData)) fun x h => by
    obtain ⟨a, _, rfl⟩ := List.mem_map.mp h
    exact pl_row _
  rwa [List.map_map, List.map_map] at this
theorem rows_nil (ls : List (List Int)) : (!PyData.eqv (.list (ls.map fun l => .list (l.map .int))) (.list (([] : List (List Int)).map fun l => .list (l.map .int)))) = !ls.isEmpty := by
  cases ls <;> rfl
end Mine


open PySem PySem.W PyProof.Rows PySem.W.X

namespace Mine
open PySem PySem.Calls PyProof.Rows


/- the names of _law_shelf -/
noncomputable abbrev ρq (rs : List (List Int)) (d : Nat) (al : List Int) (aQ : Addr) (sh le pa : Ent) : List (Str × Ent) :=
  [(Str.ofString "rows", .val true (rowsD rs)), (Str.ofString "depth", .val true (natD d)), (Str.ofString "alphabet", .val true (listD al)), (Str.ofString "shelf", sh), (Str.ofString "letter", le), (Str.ofString "part", pa), (Str.ofString "_law_shelf", .gl (.ref aQ))]
theorem len_eq (r : List Int) (d : Nat) : (((r.map D.int).length : Int) == (d : Int)) = (r.length == d) := by
  rw [List.length_map, Bool.eq_iff_iff, beq_iff_eq, beq_iff_eq]; lia
theorem len_gt (r : List Int) (d : Nat) : decide ((d : Int) < ((r.map D.int).length : Int)) = decide (d < r.length) := by
  rw [List.length_map, decide_eq_decide]; lia
theorem row_at {r : List Int} {d : Nat} (h : d < r.length) : itemAt (r.map D.int) (d : Int) = some (.int (r.getD d 0)) := by
  unfold itemAt
  rw [if_pos (by lia), List.getElem?_map, Int.toNat_natCast, List.getD_eq_getElem?_getD, List.getElem?_eq_getElem h]; rfl
set_option maxHeartbeats 4000000 in
theorem shelf_body {X : Cx} {W : List Addr} {aC aQ : Addr} {d : Nat} {rs : List (List Int)} {al : List Int} (F : Fine X) (G : Lw X.B aC aQ) (hκ : X.κ = closable (fScope stQ).names) (wal : ∀ a ∈ W, ∃ o, X.sE.heap.get? a = some o) (sub : Int → List (List Int))
    (hlen : rs.length ≤ 100) (hrl : ∀ r ∈ rs, r.length ≤ 100) (hal : al.length ≤ 100) (hsub : ∀ c, (rs.filter fun r => partP d c r) ≠ [] → ∀ W, CallR X W (.ref aQ) [rowsD (rs.filter fun r => partP d c r), natD (d + 1), listD al] .f (rowsD (sub c)))
    (hsub0 : ∀ c, (rs.filter fun r => partP d c r) = [] → sub c = []) (hsz : ∀ i, ((rs.filter fun r => r.length == d) ++ (al.take i).flatMap sub).length ≤ 100) :
    Blk X W (ρq rs d al aQ .un .un .un) (fBody stQ) (fun zz1 zz2 => False) (Ret X W .f (rowsD ((rs.filter fun r => r.length == d) ++ al.flatMap sub))) := by
  have hz : ∀ {l : List (List Int)}, l.length ≤ 100 → (l.map listI).length ≤ 1000000 := fun h => by rw [List.length_map]; lia
  -- shelf
  refine assign_comp_own (α := List Int) (xs := rs) (φ := listI) (out := fun r => if r.length == d then [listI r] else []) F (by decide +kernel) rfl (kap (by rw [hκ]; decide +kernel)) ⟨_, .head _⟩
    (.loc (.loc (.glob G.len (.free (by (with_reducible (repeat (first | exact List.mem_cons_self | apply List.mem_cons_of_mem)))) rfl .nil)))) (src_list (ev_val F (by (with_reducible (repeat (first | exact List.mem_cons_self | apply List.mem_cons_of_mem)))))) ?_ ?_ (by (with_reducible (repeat (first | exact PutF.here rfl | apply PutF.there)))) fun a => ?_
  · intro X2 W2 acc hB2 hn2 hκ2 F2 ac r hr
    have hrz : (r.map D.int).length ≤ 1000000 := by rw [List.length_map]; have := hrl r hr; lia
    refine ⟨_, r.length == d, tgtC_name F2 (by (with_reducible (repeat (first | exact PutU.here | apply PutU.there)))), tstAll_one (Tst.cast (tst_cmp F2 (ev_call F2 (by (with_reducible (repeat (first | exact List.mem_cons_self | apply List.mem_cons_of_mem)))) (evTs_cons (ev_val F2 (by (with_reducible (repeat (first | exact List.mem_cons_self | apply List.mem_cons_of_mem))))) evTs_nil) (callV_len hrz) keepOk_builtin) (ev_val F2 (by (with_reducible (repeat (first | exact List.mem_cons_self | apply List.mem_cons_of_mem))))) cmp_eq) (len_eq r d)), fun h no => ?_, fun h => ?_⟩
    · show InnerOk _ _ _ _ _ _ _ _ (if r.length == d then [listI r] else [])
      rw [h, if_pos rfl]
      exact inner_emit F2 ac no rfl (ev_val F2 (by (with_reducible (repeat (first | exact List.mem_cons_self | apply List.mem_cons_of_mem)))))
    · show (if r.length == d then [listI r] else []) = []
      rw [h]; rfl
  · rw [flatMap_if, List.length_map]; exact Nat.le_trans (List.length_filter_le ..) (by lia)
  rw [flatMap_if]
  have e0 : (rs.filter fun r => r.length == d) = (rs.filter fun r => r.length == d) ++ (al.take 0).flatMap sub := by rw [List.take_zero, List.flatMap_nil, List.append_nil]
  have conv : ∀ {sts : List Stmt} {N : Nrm} {R : Rtn}, Blk X (a :: W) (ρq rs d al aQ (.ownD a (((rs.filter fun r => r.length == d) ++ (al.take 0).flatMap sub).map listI)) .un .un) sts N R → Blk X (a :: W) (ρq rs d al aQ (.ownD a ((rs.filter fun r => r.length == d).map listI)) .un .un) sts N R := fun h => by rw [← e0] at h; exact h
  refine conv ?_
  -- the letters
  refine for_list (α := Int) (xs := al) (φ := .int) F (fun i => ρq rs d al aQ (.ownD a (((rs.filter fun r => r.length == d) ++ (al.take i).flatMap sub).map listI)) .un .un) (src_list (ev_val F (by (with_reducible (repeat (first | exact List.mem_cons_self | apply List.mem_cons_of_mem)))))) (by (repeat (first | exact Fgt.nil | refine Fgt.un rfl ?_ | refine Fgt.eq rfl ?_))) (fun i hi => ?_) ?_
  · refine ⟨ρq rs d al aQ (.ownD a (((rs.filter fun r => r.length == d) ++ (al.take i).flatMap sub).map listI)) (.val true (.int al[i])) .un, tgt_name F (by (with_reducible (repeat (first | exact Put.here rfl | apply Put.there)))), ?_⟩
    obtain ⟨c, ec⟩ : ∃ c, c = al[i] := ⟨_, rfl⟩
    rw [← ec]
    refine assign_comp (α := List Int) (xs := rs) (φ := listI) (out := fun r => if partP d c r then [listI r] else []) (ρ' := ρq rs d al aQ (.ownD a (((rs.filter fun r => r.length == d) ++ (al.take i).flatMap sub).map listI)) (.val true (.int c)) (.val true (rowsD (rs.filter fun r => partP d c r)))) F (by decide +kernel) rfl (kap (by rw [hκ]; decide +kernel)) ⟨_, .head _⟩
      (.loc (.loc (.glob G.len (.free (by (with_reducible (repeat (first | exact List.mem_cons_self | apply List.mem_cons_of_mem)))) rfl (.free (by (with_reducible (repeat (first | exact List.mem_cons_self | apply List.mem_cons_of_mem)))) rfl .nil))))) (src_list (ev_val F (by (with_reducible (repeat (first | exact List.mem_cons_self | apply List.mem_cons_of_mem)))))) ?_ ?_ ?_ ?_
    · intro X2 W2 acc hB2 hn2 hκ2 F2 ac r hr
      have hrz : (r.map D.int).length ≤ 1000000 := by rw [List.length_map]; have := hrl r hr; lia
      refine ⟨_, partP d c r, tgtC_name F2 (by (with_reducible (repeat (first | exact PutU.here | apply PutU.there)))), tstAll_one (tst_and (Tst.cast (tst_cmp F2 (ev_call F2 (by (with_reducible (repeat (first | exact List.mem_cons_self | apply List.mem_cons_of_mem)))) (evTs_cons (ev_val F2 (by (with_reducible (repeat (first | exact List.mem_cons_self | apply List.mem_cons_of_mem))))) evTs_nil) (callV_len hrz) keepOk_builtin) (ev_val F2 (by (with_reducible (repeat (first | exact List.mem_cons_self | apply List.mem_cons_of_mem))))) cmp_gt) (len_gt r d)) fun h => ?_), fun h no => ?_, fun h => ?_⟩
      · exact tst_cmp F2 (ev_fdiv (ev_item (ev_val F2 (by (with_reducible (repeat (first | exact List.mem_cons_self | apply List.mem_cons_of_mem))))) (ev_val F2 (by (with_reducible (repeat (first | exact List.mem_cons_self | apply List.mem_cons_of_mem))))) (row_at (of_decide_eq_true h)) hrz) ev_int (by decide) (by decide)) (ev_val F2 (by (with_reducible (repeat (first | exact List.mem_cons_self | apply List.mem_cons_of_mem))))) cmp_eq
      · show InnerOk _ _ _ _ _ _ _ _ (if partP d c r then [listI r] else [])
        rw [h, if_pos rfl]
        exact inner_emit F2 ac no rfl (ev_val F2 (by (with_reducible (repeat (first | exact List.mem_cons_self | apply List.mem_cons_of_mem)))))
      · show (if partP d c r then [listI r] else []) = []
        rw [h]; rfl
    · rw [flatMap_if, List.length_map]; exact Nat.le_trans (List.length_filter_le ..) (by lia)
    · rw [flatMap_if]; (with_reducible (repeat (first | exact Put.here rfl | apply Put.there)))
    have step : (al.take (i + 1)).flatMap sub = (al.take i).flatMap sub ++ sub c := by
      rw [List.take_add_one, List.flatMap_append, List.getElem?_eq_getElem hi, ec]; simp
    have hs := hsz (i + 1)
    rw [step, ← List.append_assoc] at hs ⊢
    refine blk_if (c := !(rs.filter fun r => partP d c r).isEmpty) (tst_cmp F (ev_val F (by (with_reducible (repeat (first | exact List.mem_cons_self | apply List.mem_cons_of_mem))))) (ev_list (ds := []) evs_nil (by decide)) (Pl.neq (pl_rows _) (pl_rows []) (by decide) (by decide) (rows_nil _))) (fun h => ?_) fun h => ?_
    · have hne : (rs.filter fun r => partP d c r) ≠ [] := fun z => by rw [z] at h; cases h
      refine extend_own F (by (with_reducible (repeat (first | exact List.mem_cons_self | apply List.mem_cons_of_mem)))) (Ev.toS (ev_callR F (by (with_reducible (repeat (first | exact List.mem_cons_self | apply List.mem_cons_of_mem)))) (evs_cons (ev_val F (by (with_reducible (repeat (first | exact List.mem_cons_self | apply List.mem_cons_of_mem))))) (evs_cons (Ev.flat (Ev.cast (d' := natD (d + 1)) (ev_add (ev_val F (by (with_reducible (repeat (first | exact List.mem_cons_self | apply List.mem_cons_of_mem))))) ev_int) rfl)) (evs_cons (ev_val F (by (with_reducible (repeat (first | exact List.mem_cons_self | apply List.mem_cons_of_mem))))) evs_nil))) (hsub c hne _) (DefAt.keep G.dQ)))
        (ρ' := ρq rs d al aQ (.ownD a ((((rs.filter fun r => r.length == d) ++ (al.take i).flatMap sub) ++ sub c).map listI)) (.val true (.int c)) (.val true (rowsD (rs.filter fun r => partP d c r)))) ?_ ?_ ?_
      · rw [List.length_append] at hs; rw [List.length_map, List.length_map]; lia
      · rw [List.map_append (l₂ := sub c)]; (with_reducible (repeat (first | exact Put.here rfl | apply Put.there)))
      · exact blk_then (by (repeat (first | exact Fgt.nil | refine Fgt.un rfl ?_ | refine Fgt.eq rfl ?_))) (blk_nil fun P s ok => ok)
    · have hne : (rs.filter fun r => partP d c r) = [] := by
        cases e : (rs.filter fun r => partP d c r) with
        | nil => rfl
        | cons _ _ => rw [e] at h; cases h
      rw [hsub0 c hne, List.append_nil]
      exact blk_then (by (repeat (first | exact Fgt.nil | refine Fgt.un rfl ?_ | refine Fgt.eq rfl ?_))) (blk_nil fun P s ok => ok)
  · show Blk X (a :: W) (ρq rs d al aQ (.ownD a (((rs.filter fun r => r.length == d) ++ (al.take al.length).flatMap sub).map listI)) .un .un) _ _ _
    rw [List.take_length]
    exact ret_ownD F (by (with_reducible (repeat (first | exact List.mem_cons_self | apply List.mem_cons_of_mem)))) wal fun h vs r => r.less fun b hb => .tail _ hb
theorem shelf_spec {al : List Int} (nd : al.Nodup) (hal : al.length ≤ 100) : ∀ (m : Nat) (X : Cx) (W : List Addr) (aC aQ : Addr) (d : Nat) (rs : List (List Int)), Lw X.B aC aQ → m + 3 ≤ X.n → (∀ r ∈ rs, r.length ≤ d + m ∧ r.length ≤ 100) → rs.length ≤ 100 →
    CallR X W (.ref aQ) [rowsD rs, natD d, listD al] .f (rowsD (shelfV al m d rs)) := by
  intro m
  induction m with
  | zero =>
    intro X W aC aQ d rs G hn hrs hlen
    rw [shelfV_eq]
    refine callR_def (n := 2) hn G.dQ rfl (by decide +kernel) (.loc (.cell (.loc (.loc (.cell (.loc (.glob G.gQ .nil)))))))
      (.cons (by (with_reducible (repeat (first | exact Put.here rfl | apply Put.there)))) (.cons (by (with_reducible (repeat (first | exact Put.here rfl | apply Put.there)))) (.cons (by (with_reducible (repeat (first | exact Put.here rfl | apply Put.there)))) .nil))) fun X' hB hn' hT hκ F wal => ?_
    refine shelf_body F (hB ▸ G) hκ wal _ hlen (fun r hr => (hrs r hr).2) hal (fun c hc => absurd ?_ hc) (fun c zz1 => rfl) fun i => ?_
    · rw [List.filter_eq_nil_iff]
      intro r hr
      have := (hrs r hr).1
      rw [Bool.and_eq_true, decide_eq_true_iff]
      intro z; lia
    · refine Nat.le_trans (part_le (nd.sublist (List.take_sublist ..)) fun c => subF_len nd 0 d rs c) hlen
  | succ m ih =>
    intro X W aC aQ d rs G hn hrs hlen
    rw [shelfV_eq]
    refine callR_def (n := m + 3) (by lia) G.dQ rfl (by decide +kernel) (.loc (.cell (.loc (.loc (.cell (.loc (.glob G.gQ .nil)))))))
      (.cons (by (with_reducible (repeat (first | exact Put.here rfl | apply Put.there)))) (.cons (by (with_reducible (repeat (first | exact Put.here rfl | apply Put.there)))) (.cons (by (with_reducible (repeat (first | exact Put.here rfl | apply Put.there)))) .nil))) fun X' hB hn' hT hκ F wal => ?_
    refine shelf_body F (hB ▸ G) hκ wal _ hlen (fun r hr => (hrs r hr).2) hal (fun c hc W2 => ?_) (fun c hc => ?_) fun i => ?_
    · refine ih X' W2 aC aQ (d + 1) _ (hB ▸ G) (by lia) (fun r hr => ?_) (Nat.le_trans (List.length_filter_le ..) hlen)
      have := hrs r (List.mem_filter.mp hr).1
      exact ⟨by lia, this.2⟩
    · show shelfV al m (d + 1) (rs.filter fun r => partP d c r) = []
      rw [hc, shelfV_nil]
    · refine Nat.le_trans (part_le (nd.sublist (List.take_sublist ..)) fun c => subF_len nd (m + 1) d rs c) hlen
end Mine


open PySem PySem.W PyProof.Rows PySem.W.X

namespace Mine
open PySem PySem.Calls PyProof.Rows


theorem sliceL_rev {α : Type} (xs : List α) : sliceL xs Option.none Option.none (some (-1)) = xs.reverse := by
  unfold sliceL
  show (sliceRange ((xs.length : Int) - 1) (-1) (-1)).filterMap (xs[·]?) = _
  rw [krv_sliceRange, krv_range, List.filterMap_reverse]
  congr 1
  have := pick_range xs 0 xs.length
  simp only [Nat.zero_add, List.map_id', List.drop_zero, List.take_length] at this
  exact this
/- the rows while they are made -/
noncomputable abbrev Rw := List Addr × List (Addr × List Int)
noncomputable abbrev refsOf (bs : List (Addr × List Int)) : List D := bs.map fun q => .val (.ref q.1)
structure RwOk (X : Cx) (ns : List Int) (aR aA : Addr) (i : Nat) (x : Rw) : Prop where
  eq : x.2.map (·.2) = rowsF (ns.take i)
  mR : aR ∈ x.1
  mA : aA ∈ x.1
  at_ : ∀ q ∈ x.2, q.1 ∈ x.1 ∧ X.sE.heap.get? q.1 = none ∧ q.1 ≠ aR ∧ q.1 ≠ aA
  nd : (x.2.map (·.1)).Nodup
noncomputable def RwK (x : Rw) (h : Heap) : Prop := ∀ q ∈ x.2, RepT [] h (.ref q.1) (listI q.2)
theorem RwK.mv {x : Rw} {h h' : Heap} (m : Mv h h') (k : RwK x h) : RwK x h' := fun q hq => m _ _ _ (k q hq)
theorem repT_ints {W W' : List Addr} {h h' : Heap} {b : Addr} {l : List Int} (r : RepT W h (.ref b) (listI l)) (k : ∀ o, h.get? b = some o → h'.get? b = some o) : RepT W' h' (.ref b) (listI l) := by
  obtain ⟨a, vs, e, hl, hr⟩ := r
  cases e
  exact ⟨_, vs, rfl, hl.at k, reps_ints_any hr⟩
noncomputable abbrev σR (ns : List Int) (aC aQ aR aA : Addr) (xe : Ent) (x : Rw) : List (Str × Ent) := ρs ns aC aQ (.ownD aR (refsOf x.2)) xe .un .un .un (.own aA []) .un
theorem snoc_of_ne {α : Type} {l : List α} (h : l ≠ []) : ∃ i a, l = i ++ [a] := ⟨l.dropLast, l.getLast h, (List.dropLast_concat_getLast h).symm⟩
section
variable {X : Cx} {aC aQ aR aA : Addr} {ns : List Int} {rest : List Stmt} {N : Nrm} {R : Rtn}
/- rows.append([]) -/
theorem rows_new {i : Nat} {x : Rw} {v : Int} {p ap q1 cp pos : Pos} (F : Fine X) (ok : RwOk X ns aR aA i x) (hi : i < ns.length) (hv : v = ns[i]) (h6 : sg v = 6) (hz : x.2.length ≤ 100)
    (n : ∀ P s x', RwOk X ns aR aA (i + 1) x' → OkP X x'.1 P (σR ns aC aQ aR aA .un x') s → RwK x' s.heap → N P s)
    (he : ∀ env, ∃ pl, eval (.Call (.Attribute (.Name (Str.ofString "rows") p) "append" ap) [(.List [] q1)] [] cp) env = (do
      let ov ← eval (.Name (Str.ofString "rows") p) env
      standAt ap.atName
      let (f, first) ← holding [ov] (getMethod ov "append" pl)
      callWith cp f first (backTo cp (starEach [(.List [] q1)] env)) (backToKw cp (keywordEach [] env))) := by intro _; exact ⟨_, rfl⟩)
    (hst : ∀ env, (backTo cp (starEach [(.List [] q1)] env)).any (·.1) = false := by intro _; rfl) (hse : ∀ env, starEach [(.List [] q1)] env = (false, eval (.List [] q1) env) :: starEach [] env := by intro _; rfl)
    (hsw : ∀ env, swapsWith (.Call (.Attribute (.Name (Str.ofString "rows") p) "append" ap) [(.List [] q1)] [] cp) Option.none pos.line env = pure false := by intro _; rfl) :
    BlkK X x.1 (σR ns aC aQ aR aA (.val true (.int v)) x) (RwK x) [.Expr (.Call (.Attribute (.Name (Str.ofString "rows") p) "append" ap) [.List [] q1] [] cp) pos] (Then X [] N R) R := by
  have hx : (Str.ofString "rows", Ent.ownD aR (refsOf x.2)) ∈ σR ns aC aQ aR aA (.val true (.int v)) x := by (with_reducible (repeat (first | exact List.mem_cons_self | apply List.mem_cons_of_mem)))
  refine meth_stm (a := aR) (K := RwK x) (V := fun h v h' => ∃ b, v = .ref b ∧ h'.PlainList b #[] ∧ h.get? b = none) F slot_list_append PySem.F.type_list_append (fun P s ok zz1 => ?_) (fun P s ok zz1 => ?_) (fun h h' m k => k.mv m) (fun s ok => ?_) (fun P s s' w okP hk k hV => ?_) he hst hse hsw
  · obtain ⟨h1, _⟩ := own_valD ok hx
    exact wpAny_Name (load1 F.kind h1 ⟨.refl .., rfl⟩ (by decide +kernel)) (by decide +kernel)
  · obtain ⟨_, vs, hl, hr⟩ := own_valD ok hx
    exact ⟨_, aR, vs, rfl, hl, hr⟩
  · refine wpAny_mono ((ev_list (ds := []) evs_nil (by decide)) s ok) (fun w s' h => ⟨h.1, ?_⟩) fun zz1 zz2 z => z
    obtain ⟨r, fr⟩ := h.2
    cases r with
    | @list b us _ hl hw hr => cases hr; exact ⟨b, rfl, hl, fr b rfl⟩
  · obtain ⟨b, rfl, hb, fb⟩ := hV
    obtain ⟨ok', _⟩ := okP.mask k fb (by obtain ⟨_, ho⟩ := hb; exact ⟨_, ho⟩)
    obtain ⟨_, us, hl, hr⟩ := own_valD ok' hx
    have hbR : b ≠ aR := fun z => by obtain ⟨o, ho⟩ := okP.ok.wal aR ok.mR; rw [← z, fb] at ho; cases ho
    have hbA : b ≠ aA := fun z => by obtain ⟨o, ho⟩ := okP.ok.wal aA ok.mA; rw [← z, fb] at ho; cases ho
    refine append_end hl (by rw [hr.length, List.length_map]; lia) fun h' hl' hsb => ?_
    refine wpAny_execs_nil (wpAny_execs_nil (n P _ (b :: x.1, x.2 ++ [(b, [])]) ?_ ?_ fun q hq => ?_))
    · refine ⟨?_, .tail _ ok.mR, .tail _ ok.mA, fun q hq => ?_, ?_⟩
      · rw [List.map_append, ok.eq, List.take_add_one, List.getElem?_eq_getElem hi, ← hv]
        show rowsF _ ++ [[]] = rowsF (_ ++ [v])
        unfold rowsF
        rw [rowsP_snoc]
        unfold rstep
        rw [if_pos h6]
      · rcases List.mem_append.mp hq with hq | hq
        · have := ok.at_ q hq; exact ⟨.tail _ this.1, this.2⟩
        · rw [List.mem_singleton.mp hq]
          exact ⟨.head _, okP.ok.ext.ext.fresh fb, hbR, hbA⟩
      · rw [List.map_append, List.nodup_append]
        refine ⟨ok.nd, List.nodup_cons.mpr ⟨List.not_mem_nil, List.nodup_nil⟩, fun a ha c hc z => ?_⟩
        obtain ⟨q, hq, e⟩ := List.mem_map.mp ha
        obtain ⟨o, ho⟩ := okP.ok.wal q.1 (ok.at_ q hq).1
        have hc : c = b := List.mem_singleton.mp hc
        rw [e, z, hc, fb] at ho; cases ho
    · have okx := own_setD (tk := s'.toks) (ρ' := σR ns aC aQ aR aA (.val true (.int v)) (b :: x.1, x.2 ++ [(b, [])])) ok' hx (by unfold σR refsOf; rw [List.map_append]; (with_reducible (repeat (first | exact Put.here rfl | apply Put.there)))) hsb ⟨_, hl', ?_⟩
      · exact okx.fgt (by (repeat (first | exact Fgt.nil | refine Fgt.un rfl ?_ | refine Fgt.eq rfl ?_)))
      · exact (hr.append (.cons (.val _) .nil)).extBut hsb (.inl (.tail _ ok.mR))
    · rcases List.mem_append.mp hq with hq | hq
      · exact repT_ints (hk q hq) fun o e => hsb _ _ (ok.at_ q hq).2.2.1 (k.ext.strict _ _ e)
      · rw [List.mem_singleton.mp hq]
        exact ⟨b, [], rfl, hb.at fun o e => hsb _ _ hbR e, .nil⟩
/- rows[-1].append(x % 7) -/
theorem rows_more {i : Nat} {x : Rw} {v : Int} {p p1 p2 p3 p4 p5 p6 ap cp pos : Pos} {k1 k2 : Nat} (F : Fine X) (hne : aR ≠ aA) (ok : RwOk X ns aR aA i x) (hi : i < ns.length) (hv : v = ns[i]) (h6 : sg v ≠ 6) (hz : x.2.length ≤ 100) (hz2 : ∀ q ∈ x.2, q.2.length ≤ 100)
    (n : ∀ P s x', RwOk X ns aR aA (i + 1) x' → OkP X x'.1 P (σR ns aC aQ aR aA .un x') s → RwK x' s.heap → N P s)
    (he : ∀ env, ∃ pl, eval (.Call (.Attribute (.Subscript (.Name (Str.ofString "rows") p) (.UnaryOp .USub (.Constant (.int 1) k1 p1) p2) p3) "append" ap) [(.BinOp (.Name (Str.ofString "x") p4) .Mod (.Constant (.int 7) k2 p5) p6)] [] cp) env = (do
      let ov ← eval (.Subscript (.Name (Str.ofString "rows") p) (.UnaryOp .USub (.Constant (.int 1) k1 p1) p2) p3) env
      standAt ap.atName
      let (f, first) ← holding [ov] (getMethod ov "append" pl)
      callWith cp f first (backTo cp (starEach [(.BinOp (.Name (Str.ofString "x") p4) .Mod (.Constant (.int 7) k2 p5) p6)] env)) (backToKw cp (keywordEach [] env))) := by intro _; exact ⟨_, rfl⟩)
    (hst : ∀ env, (backTo cp (starEach [(.BinOp (.Name (Str.ofString "x") p4) .Mod (.Constant (.int 7) k2 p5) p6)] env)).any (·.1) = false := by intro _; rfl) (hse : ∀ env, starEach [(.BinOp (.Name (Str.ofString "x") p4) .Mod (.Constant (.int 7) k2 p5) p6)] env = (false, eval (.BinOp (.Name (Str.ofString "x") p4) .Mod (.Constant (.int 7) k2 p5) p6) env) :: starEach [] env := by intro _; rfl)
    (hsw : ∀ env, swapsWith (.Call (.Attribute (.Subscript (.Name (Str.ofString "rows") p) (.UnaryOp .USub (.Constant (.int 1) k1 p1) p2) p3) "append" ap) [(.BinOp (.Name (Str.ofString "x") p4) .Mod (.Constant (.int 7) k2 p5) p6)] [] cp) Option.none pos.line env = pure false := by intro _; rfl) :
    BlkK X x.1 (σR ns aC aQ aR aA (.val true (.int v)) x) (RwK x) [.Expr (.Call (.Attribute (.Subscript (.Name (Str.ofString "rows") p) (.UnaryOp .USub (.Constant (.int 1) k1 p1) p2) p3) "append" ap) [.BinOp (.Name (Str.ofString "x") p4) .Mod (.Constant (.int 7) k2 p5) p6] [] cp) pos] (Then X [] N R) R := by
  have hx : (Str.ofString "rows", Ent.ownD aR (refsOf x.2)) ∈ σR ns aC aQ aR aA (.val true (.int v)) x := by (with_reducible (repeat (first | exact List.mem_cons_self | apply List.mem_cons_of_mem)))
  have hb0 : x.2 ≠ [] := fun z => by
    have := ok.eq; rw [z] at this
    unfold rowsF at this
    cases h : (rowsP (ns.take i)).1 <;> rw [h] at this <;> cases this
  obtain ⟨ini, ⟨b, L⟩, ex⟩ := snoc_of_ne hb0
  have hmb : (b, L) ∈ x.2 := by rw [ex]; exact List.mem_append_right _ (.head _)
  obtain ⟨b1, b2, b3, b4⟩ := ok.at_ _ hmb
  have nini : ∀ q ∈ ini, q.1 ≠ b := fun q hq z => by
    have nd := ok.nd
    rw [ex, List.map_append, List.nodup_append] at nd
    exact nd.2.2 q.1 (List.mem_map_of_mem hq) b (.head _) z
  have hit : itemAt (refsOf x.2) (-1) = some (.val (.ref b)) := by
    unfold itemAt
    rw [ex]
    have e1 : ¬ (0 : Int) ≤ -1 := by decide
    rw [if_neg e1, if_pos (by simp; lia)]
    have e2 : ((-1 : Int) + ((refsOf (ini ++ [(b, L)])).length : Int)).toNat = ini.length := by rw [List.length_map, List.length_append, List.length_singleton]; lia
    rw [e2]; simp
  refine meth_stm (a := b) (K := RwK x) (V := fun h w h' => ∃ t, w = .int (sg v) t) F slot_list_append PySem.F.type_list_append (fun P s ok zz1 => ?_) (fun P s zz1 hk => ⟨_, repT_ints (hk _ hmb) fun zz1 e => e⟩) (fun h h' m k => k.mv m) (fun s ok => ?_) (fun P s s' w okP hk k hV => ?_) he hst hse hsw
  · refine wpAny_mono (ev_item (ev_ownD F hx) (ev_neg ev_int) hit (by rw [List.length_map]; lia) s ok.ok) (fun w s' h => ⟨h.1, ?_⟩) fun zz1 zz2 z => z
    have r : Rep x.1 s'.heap w (.val (.ref b)) := h.2
    cases r; rfl
  · refine wpAny_mono (ev_mod (l₁ := .s) (l₂ := .f) (ev_val F (by (with_reducible (repeat (first | exact List.mem_cons_self | apply List.mem_cons_of_mem))))) ev_int (by decide) s ok) (fun w s' h => ⟨h.1, repT_int h.2.toT⟩) fun zz1 zz2 z => z
  · obtain ⟨t, rfl⟩ := hV
    have ok' := okP.mono k
    obtain ⟨a, us, e, hl, hr⟩ := RwK.mv (Ext.mv k.ext) hk _ hmb
    cases e
    have hL := hz2 _ hmb
    refine append_end hl (by rw [hr.length, List.length_map]; exact Nat.le_trans hL (by decide)) fun h' hl' hsb => ?_
    refine wpAny_execs_nil (wpAny_execs_nil (n P _ (x.1, ini ++ [(b, L ++ [sg v])]) ?_ ?_ fun q hq => ?_))
    · refine ⟨?_, ok.mR, ok.mA, fun q hq => ?_, ?_⟩
      · have eq := ok.eq
        rw [ex, List.map_append] at eq
        rw [List.map_append, List.take_add_one, List.getElem?_eq_getElem hi, ← hv]
        show ini.map (·.2) ++ [L ++ [sg v]] = rowsF (_ ++ [v])
        unfold rowsF at eq ⊢
        rw [rowsP_snoc]
        unfold rstep
        rw [if_neg h6]
        have eq := List.append_inj' eq rfl
        rw [← eq.1]
        have e2 : L = (rowsP (ns.take i)).2 := by have := eq.2; cases this; rfl
        rw [← e2]
      · rcases List.mem_append.mp hq with hq | hq
        · exact ok.at_ q (by rw [ex]; exact List.mem_append_left _ hq)
        · rw [List.mem_singleton.mp hq]; exact ⟨b1, b2, b3, b4⟩
      · have nd := ok.nd
        rw [ex, List.map_append] at nd
        rw [List.map_append]; exact nd
    · have e : refsOf (ini ++ [(b, L ++ [sg v])]) = refsOf x.2 := by rw [ex]; simp
      have okx := ok'.grow (tk := s'.toks) b1 b2 (fun p hp ms e => ?_) hl hsb (by obtain ⟨_, ho⟩ := hl'; exact ⟨_, ho⟩)
      · unfold σR; rw [e]; exact okx.fgt (by (repeat (first | exact Fgt.nil | refine Fgt.un rfl ?_ | refine Fgt.eq rfl ?_)))
      · simp only [List.mem_cons, List.not_mem_nil, or_false] at hp
        rcases hp with rfl | rfl | rfl | rfl | rfl | rfl | rfl | rfl | rfl | rfl | rfl <;> cases e
        · exact b3 rfl
        · exact b4 rfl
    · rcases List.mem_append.mp hq with hq | hq
      · exact repT_ints (hk q (by rw [ex]; exact List.mem_append_left _ hq)) fun o e => hsb _ _ (nini q hq) (k.ext.strict _ _ e)
      · rw [List.mem_singleton.mp hq]
        refine ⟨b, us ++ [.int (sg v) t], rfl, hl', ?_⟩
        show Reps [] h' _ ((L ++ [sg v]).map .int)
        rw [List.map_append]
        exact (reps_ints_any hr).append (.cons (.int _ _) .nil)
end
end Mine


open PySem PySem.W PyProof.Rows PySem.W.X

namespace Mine
open PySem PySem.Calls PyProof.Rows


section
variable {X : Cx} {aC aQ : Addr} {ns : List Int} {N : Nrm} {R : Rtn}
theorem blkK_imp {W : List Addr} {ρ : List (Str × Ent)} {K K' : Heap → Prop} {sts : List Stmt} (h : BlkK X W ρ K' sts N R) (k : ∀ h, K h → K' h) : BlkK X W ρ K sts N R := fun P s ok hk => h P s ok (k _ hk)
theorem reps_rows {W W' : List Addr} {h : Heap} : ∀ {bs : List (Addr × List Int)} {us : List Value}, Reps W h us (refsOf bs) → (∀ q ∈ bs, RepT [] h (.ref q.1) (listI q.2) ∧ q.1 ∉ W') → Reps W' h us ((bs.map (·.2)).map listI)
  | [], _, r, _ => by cases r; exact .nil
  | q :: bs, _, r, k => by
    cases r with
    | cons a b =>
      cases a
      obtain ⟨r1, n1⟩ := k q (.head _)
      obtain ⟨c, vs, e, hl, hr⟩ := r1
      cases e
      exact .cons (.list hl n1 (reps_ints_any hr)) (reps_rows b fun q hq => k q (.tail _ hq))
set_option maxHeartbeats 4000000 in
/- rows made -/
theorem law_rows (F : Fine X) (hl : ns.length ≤ 63) (n : ∀ aA, Blk X [aA] (ρs ns aC aQ (.val true (rowsD (rowsF ns))) .un .un .un .un (.own aA []) .un) ((fBody stL).drop 4) N R) : Blk X [] (ρs ns aC aQ .un .un .un .un .un .un .un) ((fBody stL).drop 1) N R := by
  refine assign_rows F (by (with_reducible (repeat (first | exact PutF.here rfl | apply PutF.there)))) fun aR b hab eR eb => ?_
  refine assignK_own (ns := []) F (ev_list (ds := []) evs_nil (by decide)) (by (with_reducible (repeat (first | exact PutF.here rfl | apply PutF.there)))) (fun zz1 zz2 m k => m _ _ _ k) fun aA hown eA hW => ?_
  have hRA : aR ≠ aA := hW _ (.head _)
  have hbA : b ≠ aA := hW _ (.tail _ (.head _))
  refine blkK_imp (K' := RwK ([aA, aR, b], [(b, [])])) ?_ fun h k q hq => by rw [List.mem_singleton.mp hq]; exact k
  refine blk_forK (ι := Rw) (ds := ns.map .int) F (fun x => x.1) (σR ns aC aQ aR aA .un) RwK (fun x h h' m k => k.mv m) (RwOk X ns aR aA) ([aA, aR, b], [(b, [])]) ?_ (fun s h => h) (src_list (ev_val F (by (with_reducible (repeat (first | exact List.mem_cons_self | apply List.mem_cons_of_mem)))))) (fun i d x hd hφ => ?_) fun x hφ P s ok hk => ?_
  · refine ⟨rfl, .tail _ (.head _), .head _, fun q hq => ?_, List.nodup_cons.mpr ⟨List.not_mem_nil, List.nodup_nil⟩⟩
    rw [List.mem_singleton.mp hq]
    exact ⟨.tail _ (.tail _ (.head _)), eb, hab.symm, hbA⟩
  · have hi : i < ns.length := by
      have := (List.getElem?_eq_some_iff.mp hd).1
      rwa [List.length_map] at this
    have ed : d = .int ns[i] := by rw [List.getElem?_map, List.getElem?_eq_getElem hi] at hd; cases hd; rfl
    subst ed
    have ht : (ns.take i).length ≤ 63 := by rw [List.length_take]; lia
    have hz : x.2.length ≤ 100 := by
      have e := congrArg List.length hφ.eq
      rw [List.length_map] at e
      have := rows_len (ns.take i); lia
    have hz2 : ∀ q ∈ x.2, q.2.length ≤ 100 := fun q hq => by
      have := row_len (ns := ns.take i) (r := q.2) (by rw [← hφ.eq]; exact List.mem_map_of_mem hq)
      lia
    refine ⟨σR ns aC aQ aR aA (.val true (.int ns[i])) x, tgt_name F (by (with_reducible (repeat (first | exact Put.here rfl | apply Put.there)))), blkK_if (c := sg ns[i] == 6) (tst_cmp F (ev_mod (ev_val F (by (with_reducible (repeat (first | exact List.mem_cons_self | apply List.mem_cons_of_mem))))) ev_int (by decide)) ev_int cmp_eq) (fun h h' m k => k.mv m) (fun h => ?_) fun h => ?_⟩
    · exact rows_new F hφ hi rfl (by simpa using h) hz fun P s x' a b c => ⟨x', a, b, c⟩
    · exact rows_more F hRA hφ hi rfl (by simpa using h) hz hz2 fun P s x' a b c => ⟨x', a, b, c⟩
  · have hx : (Str.ofString "rows", Ent.ownD aR (refsOf x.2)) ∈ σR ns aC aQ aR aA .un x := by (with_reducible (repeat (first | exact List.mem_cons_self | apply List.mem_cons_of_mem)))
    refine n aA P s (ok.freeze (b := true) (es := (rowsF ns).map listI) hx (by (with_reducible (repeat (first | exact Put.here rfl | apply Put.there)))) (fun c hc => by rw [List.mem_singleton.mp hc]; exact hφ.mA) (fun p hp hne c ms e => ?_) ?_)
    · simp only [List.mem_cons, List.not_mem_nil, or_false] at hp
      rcases hp with rfl | rfl | rfl | rfl | rfl | rfl | rfl | rfl | rfl | rfl | rfl <;> cases e
      · exact absurd rfl hne
      · exact .head _
    · obtain ⟨_, us, hl', hr⟩ := own_valD ok hx
      refine .list hl' (by simpa using hRA) ?_
      have e : rowsF ns = x.2.map (·.2) := by rw [hφ.eq, List.length_map, List.take_length]
      rw [e]
      exact reps_rows hr fun q hq => ⟨hk q hq, by simpa using (hφ.at_ q hq).2.2.2⟩
noncomputable abbrev alD (ns : List Int) : List Int := alphF ns.reverse
set_option maxHeartbeats 4000000 in
/- the alphabet -/
theorem law_alph {aA : Addr} (F : Fine X) (hl : ns.length ≤ 63) (n : Blk X [] (ρs ns aC aQ (.val true (rowsD (rowsF ns))) .un .un .un .un (.val false (listD (alD ns))) .un) ((fBody stL).drop 5) N R) : Blk X [aA] (ρs ns aC aQ (.val true (rowsD (rowsF ns))) .un .un .un .un (.own aA []) .un) ((fBody stL).drop 4) N R := by
  have hz0 : (ns.map D.int).length ≤ 1000000 := by rw [List.length_map]; lia
  refine for_list (α := Int) (xs := ns.reverse) (φ := .int) F (fun i => ρs ns aC aQ (.val true (rowsD (rowsF ns))) .un .un .un .un (.own aA (alphF (ns.reverse.take i))) .un)
    (src_list (Ev.toS (Ev.cast (ev_slice (ev_val F (by (with_reducible (repeat (first | exact List.mem_cons_self | apply List.mem_cons_of_mem))))) evO_none evO_none (evO_some (ev_neg ev_int)) (by decide) hz0) (by rw [sliceL_rev, List.map_reverse])))) (by (repeat (first | exact Fgt.nil | refine Fgt.un rfl ?_ | refine Fgt.eq rfl ?_))) (fun i hi => ?_) fun P s ok => ?_
  · obtain ⟨v, ev⟩ : ∃ v, v = ns.reverse[i] := ⟨_, rfl⟩
    refine ⟨ρs ns aC aQ (.val true (rowsD (rowsF ns))) (.val true (.int ns.reverse[i])) .un .un .un (.own aA (alphF (ns.reverse.take i))) .un, tgt_name F (by (with_reducible (repeat (first | exact Put.here rfl | apply Put.there)))), ?_⟩
    have step : alphF (ns.reverse.take (i + 1)) = astep (alphF (ns.reverse.take i)) v := by
      rw [List.take_add_one, List.getElem?_eq_getElem hi, ← ev]
      exact alph_snoc _ _
    have hz : (alphF (ns.reverse.take i)).length ≤ 1000000 := by
      have h1 := alph_len (ns.reverse.take i)
      have h2 : (ns.reverse.take i).length ≤ 63 := by rw [List.length_take, List.length_reverse]; lia
      lia
    rw [← ev, step]
    generalize alphF (ns.reverse.take i) = al at hz
    refine blk_if (c := (sg v != 6) && !(al.any (· == letter (sg v)))) (tst_and (tst_cmp F (ev_mod (ev_val F (by (with_reducible (repeat (first | exact List.mem_cons_self | apply List.mem_cons_of_mem))))) ev_int (by decide)) ev_int cmp_ne) fun zz1 => tst_cmp F (ev_fdiv (ev_mod (ev_val F (by (with_reducible (repeat (first | exact List.mem_cons_self | apply List.mem_cons_of_mem))))) ev_int (by decide)) ev_int (by decide) (by decide)) (ev_own F (by (with_reducible (repeat (first | exact List.mem_cons_self | apply List.mem_cons_of_mem))))) cmp_notIn) (fun h => ?_) fun h => ?_
    · have h' : sg v ≠ 6 ∧ letter (sg v) ∉ al := by
        rw [Bool.and_eq_true] at h
        refine ⟨by simpa using h.1, fun z => ?_⟩
        have h2 := h.2
        rw [Bool.not_eq_true', List.any_eq_false] at h2
        exact h2 _ z (by simp)
      unfold astep
      rw [if_pos h']
      refine append_own F (by (with_reducible (repeat (first | exact List.mem_cons_self | apply List.mem_cons_of_mem)))) (ev_fdiv (ev_mod (ev_val F (by (with_reducible (repeat (first | exact List.mem_cons_self | apply List.mem_cons_of_mem))))) ev_int (by decide)) ev_int (by decide) (by decide)) hz (ρ' := ρs ns aC aQ (.val true (rowsD (rowsF ns))) (.val true (.int v)) .un .un .un (.own aA (al ++ [letter (sg v)])) .un) (by (with_reducible (repeat (first | exact Put.here rfl | apply Put.there)))) ?_
      exact blk_then (by (repeat (first | exact Fgt.nil | refine Fgt.un rfl ?_ | refine Fgt.eq rfl ?_))) (blk_nil fun P s ok => ok)
    · have h' : ¬ (sg v ≠ 6 ∧ letter (sg v) ∉ al) := fun z => by
        rw [Bool.and_eq_false_iff] at h
        rcases h with h | h
        · exact z.1 (by simpa using h)
        · rw [Bool.not_eq_false', List.any_eq_true] at h
          obtain ⟨a, ha, e⟩ := h
          exact z.2 (eq_of_beq e ▸ ha)
      unfold astep
      rw [if_neg h']
      exact blk_then (by (repeat (first | exact Fgt.nil | refine Fgt.un rfl ?_ | refine Fgt.eq rfl ?_))) (blk_nil fun P s ok => ok)
  · have e : alphF (ns.reverse.take ns.reverse.length) = alD ns := by rw [List.take_length]
    have ok : OkP X [aA] P (ρs ns aC aQ (.val true (rowsD (rowsF ns))) .un .un .un .un (.own aA (alphF (ns.reverse.take ns.reverse.length))) .un) s := ok
    rw [e] at ok
    refine n P s (ok.freezeI (b := false) (x := Str.ofString "alphabet") (by (with_reducible (repeat (first | exact List.mem_cons_self | apply List.mem_cons_of_mem)))) (by (with_reducible (repeat (first | exact Put.here rfl | apply Put.there)))) (fun c hc => nomatch hc) List.not_mem_nil fun p hp hne c ms e => ?_)
    simp only [List.mem_cons, List.not_mem_nil, or_false] at hp
    rcases hp with rfl | rfl | rfl | rfl | rfl | rfl | rfl | rfl | rfl | rfl | rfl <;> cases e
    exact absurd rfl hne
end
end Mine


open PySem PySem.W PyProof.Rows PySem.W.X

namespace Mine
open PySem PySem.Calls PyProof.Rows


/- the lambda of a statement, with a closure of one cell -/
noncomputable def LamC (B : Base) (v : Value) (st : Stmt) (x : Str) (e : Ent) : Prop := ∃ a qual c pm c' ctv, v = .ref a ∧ FnB B a (kla_fn "<lambda>" qual (lamP st) (lamB st) (lamS st) [(x, c)] pm (.ref c') ctv) ∧ CellIs B c e
theorem LamC.keep {X : Cx} {W : List Addr} {v : Value} {st : Stmt} {x : Str} {e : Ent} (l : LamC X.B v st x e) : KeepOk X W v := by
  obtain ⟨a, qual, c, pm, c', ctv, rfl, fb, _⟩ := l
  exact keepOk_fn fb
section
variable {X : Cx} {W : List Addr} {v : Value} {al : List Int} {c : KC} {a b : Int}
theorem cmpK_spec (L : LamC X.B v stK (Str.ofString "alphabet") (.tmp true (listD al))) (hn : 1 ≤ X.n) (hz : al.length ≤ 100) (ha : letter a ∈ al) (hb : letter b ∈ al) : CallV X W v [.int a, .int b] .f (.int ((gOf al a : Int) - (gOf al b : Int))) := by
  obtain ⟨f, qual, cc, pm, c', ctv, rfl, fb, ci⟩ := L
  refine callV_lamC (n := 0) (as := (lamP stK).args) hn fb rfl rfl rfl (fun h k => cloOk_one ci k W) (by decide +kernel) (.loc (.loc (.free (.head _) rfl .nil))) (.cons (e := .val true _) (by (with_reducible (repeat (first | exact Put.here rfl | apply Put.there)))) rfl (.cons (e := .val true _) (by (with_reducible (repeat (first | exact Put.here rfl | apply Put.there)))) rfl .nil)) fun X' hB hn' hT hκ F => ?_
  have hz' : al.length ≤ 1000000 := Nat.le_trans hz (by decide)
  exact ev_sub (ev_meth F (ev_tmp F (by (with_reducible (repeat (first | exact List.mem_cons_self | apply List.mem_cons_of_mem))))) (getM_list PySem.F.slot_list_index PySem.F.type_list_index) (evTs_cons (ev_fdiv (ev_val F (by (with_reducible (repeat (first | exact List.mem_cons_self | apply List.mem_cons_of_mem))))) ev_int (by decide) (by decide)) evTs_nil) (callV_index ha hz') keepOk_builtin)
    (ev_meth F (ev_tmp F (by (with_reducible (repeat (first | exact List.mem_cons_self | apply List.mem_cons_of_mem))))) (getM_list PySem.F.slot_list_index PySem.F.type_list_index) (evTs_cons (ev_fdiv (ev_val F (by (with_reducible (repeat (first | exact List.mem_cons_self | apply List.mem_cons_of_mem))))) ev_int (by decide) (by decide)) evTs_nil) (callV_index hb hz') keepOk_builtin)
theorem lt_spec (K : KIn X.B c kS) (L : LamC X.B c.v stK (Str.ofString "alphabet") (.tmp true (listD al))) (hn : 2 ≤ X.n) (hz : al.length ≤ 100) (ha : letter a ∈ al) (hb : letter b ∈ al) : CallV X W (.ref c.f1) [.key c.C (.int a), .key c.C (.int b)] .f (.bool (decide (gOf al a < gOf al b))) := by
  have e : decide (gOf al a < gOf al b) = decide (((gOf al a : Int) - (gOf al b : Int)) < 0) := by rw [decide_eq_decide]; lia
  rw [e]
  exact callV_cmp (n := 1) K hn (fun h x => x.1.lt) m_lt rfl rfl (fun X' hB hn' => cmpK_spec (hB ▸ L) (by lia) hz ha hb) (fun X' hB => LamC.keep (st := stK) (hB ▸ L)) (fun X' => cmp_lt) fun zz1 => rfl
theorem eq_spec (K : KIn X.B c kS) (L : LamC X.B c.v stK (Str.ofString "alphabet") (.tmp true (listD al))) (hn : 2 ≤ X.n) (hz : al.length ≤ 100) (ha : letter a ∈ al) (hb : letter b ∈ al) : CallV X W (.ref c.f3) [.key c.C (.int a), .key c.C (.int b)] .f (.bool (gOf al a == gOf al b)) := by
  have e : (gOf al a == gOf al b) = (((gOf al a : Int) - (gOf al b : Int)) == 0) := by rw [Bool.eq_iff_iff, beq_iff_eq, beq_iff_eq]; lia
  rw [e]
  exact callV_cmp (n := 1) K hn (fun h x => x.1.eq) m_eq rfl rfl (fun X' hB hn' => cmpK_spec (hB ▸ L) (by lia) hz ha hb) (fun X' hB => LamC.keep (st := stK) (hB ▸ L)) (fun X' => cmp_eq) fun zz1 => rfl
/- the keys of a row -/
theorem row_spec {r : List Int} (K : KIn X.B c kS) (L : LamC X.B v stT (Str.ofString "key") (.val true (.val (.ref c.C)))) (hn : 3 ≤ X.n) (hr : r.length ≤ 100) : CallR X W v [listI r] .f (keysD c.C r) := by
  obtain ⟨f, qual, cc, pm, c', ctv, rfl, fb, ci⟩ := L
  refine callR_lamC (n := 2) (as := (lamP stT).args) hn fb rfl rfl rfl (fun h k => cloOk_one ci k W) (by decide +kernel) (.loc (.free (.head _) rfl .nil)) (.cons (by (with_reducible (repeat (first | exact Put.here rfl | apply Put.there)))) .nil) fun X' hB hn' hT hκ F => ?_
  have hκ' : X'.κ = closable (lamS stT).names := hκ
  refine Ev.cast (ev_comp (α := Int) (xs := r) (φ := .int) (out := fun a => [.key c.C (.int a)]) F (by decide +kernel) rfl (kap (by rw [hκ']; decide +kernel)) ⟨_, .head _⟩ (.loc (.loc (.free (by (with_reducible (repeat (first | exact List.mem_cons_self | apply List.mem_cons_of_mem)))) rfl .nil))) (src_list (ev_val F (by (with_reducible (repeat (first | exact List.mem_cons_self | apply List.mem_cons_of_mem)))))) ?_ ?_) (by rw [flatMap_one])
  · intro X2 W2 acc hB2 hn2 hκ2 F2 ac x hx
    refine ⟨_, true, tgtC_name F2 (by (with_reducible (repeat (first | exact PutU.here | apply PutU.there)))), tstAll_nil, fun zz1 no => inner_emit F2 ac no rfl (Ev.toS (ev_callv F2 (by (with_reducible (repeat (first | exact List.mem_cons_self | apply List.mem_cons_of_mem)))) (evTs_cons (ev_val F2 (by (with_reducible (repeat (first | exact List.mem_cons_self | apply List.mem_cons_of_mem))))) evTs_nil) (callV_make (n := 0) (hB2 ▸ hB ▸ K) init_st (by lia) rfl) (keepOk_cls (hB2 ▸ hB ▸ K)))), fun h => by cases h⟩
  · rw [flatMap_one, List.length_map]; lia
end
end Mine


open PySem PySem.W PyProof.Rows PySem.W.X

namespace Mine
open PySem PySem.Calls PyProof.Rows


theorem flat_ints (rs : List (List Int)) : (rs.flatMap fun r => r.flatMap fun a => [D.int a]) = rs.flatten.map .int := by
  induction rs with
  | nil => rfl
  | cons r rs ih => rw [List.flatMap_cons, List.flatten_cons, List.map_append, flatMap_one, ih]
theorem due_ints (al ss : List Int) : (al.flatMap fun c => ss.flatMap fun a => if letter a == c then [D.int a] else []) = (dueV al ss).map .int := by
  unfold dueV
  rw [List.map_flatMap]
  congr 1
  funext c
  rw [flatMap_if]
theorem flatMap_le {α β : Type} {f : α → List β} {k : Nat} (h : ∀ c, (f c).length ≤ k) (l : List α) : (l.flatMap f).length ≤ l.length * k := by
  induction l with
  | nil => exact Nat.zero_le _
  | cons c l ih => rw [List.flatMap_cons, List.length_append, List.length_cons, Nat.succ_mul, Nat.add_comm]; exact Nat.add_le_add ih (h c)
theorem cell_at {X : Cx} {W : List Addr} {ρ : List (Str × Ent)} {s : Shared} {x : Str} {b : Bool} {d : D} (ok : Ok X W ρ s) (hx : (x, Ent.val b d) ∈ ρ) (hk : X.env.kindOf x = some .cell) : ∃ c, X.env.cells.lookup x = some c := by
  rcases ok.ent _ hx with ⟨v, z, _⟩ | ⟨⟨ov, h1, _⟩, _⟩
  · cases z
  · rcases h1 with ⟨z, _⟩ | ⟨_, c, e, _⟩
    · have z : X.env.kindOf x = some .local := z
      rw [hk] at z; cases z
    · exact ⟨c, e⟩
theorem slots_sub {env : Env} {ρ ρ' : List (Str × Ent)} (h : ∀ p ∈ ρ', p.2.rw = true → ∃ e, (p.1, e) ∈ ρ ∧ e.rw = true) : ∀ a ∈ slotsOf env ρ', a ∈ slotsOf env ρ := fun a ha => by
  rcases slots_mem ha with rfl | ⟨p, hp, h1, h2, h3⟩
  · exact .head _
  · obtain ⟨e, m, r⟩ := h p hp h1
    exact mem_slots m r h2 h3
theorem LFr.less {X : Cx} {s₁ : Shared} {S S' : List Addr} {ca : Addr} {fdC : FuncData} {stC : Stmt} {k : KSrc} {ar : Arg} {pr pr' : Pos} {cC PC cL PL : Addr} {v0 : Value} {pk : Option (Addr × Addr)} {used : List (Nat × Nat)} (L : LFr X s₁ S ca fdC stC k ar pr pr' cC PC cL PL v0 pk used) (h : ∀ a ∈ S', a ∈ S) :
    LFr X s₁ S' ca fdC stC k ar pr pr' cC PC cL PL v0 pk used := ⟨L.at_, fun a ha => L.fr a (h a ha), L.g, L.o⟩
/- law's names are there from the start -/
theorem ρs_sub {ns : List Int} {aC aQ : Addr} {ro x si du te al ke ro' x' si' du' te' al' ke' : Ent} (h : (ro'.rw = true → ro.rw = true) ∧ (x'.rw = true → x.rw = true) ∧ (si'.rw = true → si.rw = true) ∧ (du'.rw = true → du.rw = true) ∧ (te'.rw = true → te.rw = true) ∧ (al'.rw = true → al.rw = true) ∧ (ke'.rw = true → ke.rw = true)) :
    ∀ p ∈ ρs ns aC aQ ro' x' si' du' te' al' ke', p.2.rw = true → ∃ e, (p.1, e) ∈ ρs ns aC aQ ro x si du te al ke ∧ e.rw = true := fun p hp hr => by
  obtain ⟨h1, h2, h3, h4, h5, h6, h7⟩ := h
  simp only [List.mem_cons, List.not_mem_nil, or_false] at hp
  rcases hp with rfl | rfl | rfl | rfl | rfl | rfl | rfl | rfl | rfl | rfl | rfl
  · exact ⟨_, by (with_reducible (repeat (first | exact List.mem_cons_self | apply List.mem_cons_of_mem))), rfl⟩
  · exact ⟨_, by (with_reducible (repeat (first | exact List.mem_cons_self | apply List.mem_cons_of_mem))), h1 hr⟩
  · exact ⟨_, by (with_reducible (repeat (first | exact List.mem_cons_self | apply List.mem_cons_of_mem))), h2 hr⟩
  · exact ⟨_, by (with_reducible (repeat (first | exact List.mem_cons_self | apply List.mem_cons_of_mem))), h3 hr⟩
  · exact ⟨_, by (with_reducible (repeat (first | exact List.mem_cons_self | apply List.mem_cons_of_mem))), h4 hr⟩
  · exact ⟨_, by (with_reducible (repeat (first | exact List.mem_cons_self | apply List.mem_cons_of_mem))), h5 hr⟩
  · exact ⟨_, by (with_reducible (repeat (first | exact List.mem_cons_self | apply List.mem_cons_of_mem))), h6 hr⟩
  · exact ⟨_, by (with_reducible (repeat (first | exact List.mem_cons_self | apply List.mem_cons_of_mem))), h7 hr⟩
  · cases hr
  · cases hr
  · cases hr
theorem closure_one {env : Env} {scope : Scope} {x : Str} {c : Addr} (hf : ∀ y, (y, NameKind.free) ∈ scope.names → y = x) (hc : env.cells.lookup x = some c) (he : clos env scope.names [] = [(x, (env.cells.lookup x).getD 0)]) : closureFor scope env = pure [(x, c)] := by
  rw [closureFor_clos fun y hy => ⟨c, hf y hy ▸ hc⟩, he, hc]; rfl
theorem free_one {names : List (Str × NameKind)} {x : Str} (h : (names.all fun p => !(p.2 == NameKind.free) || p.1 == x) = true) : ∀ y, (y, NameKind.free) ∈ names → y = x := fun y hy => by
  rw [List.all_eq_true] at h
  have := h _ hy
  simpa using this
theorem getD_ints {ss : List Int} {p : List Nat} (h : ∀ i ∈ p, i < ss.length) : (p.map fun i => (ss.map D.int).getD i .none) = (p.map fun i => ss.getD i 0).map .int := by
  rw [List.map_map]
  refine List.map_congr_left fun i hi => ?_
  rw [List.getD_eq_getElem?_getD, List.getElem?_map, List.getElem?_eq_getElem (h i hi)]
  show D.int _ = D.int (ss.getD i 0)
  rw [List.getD_eq_getElem?_getD, List.getElem?_eq_getElem (h i hi)]; rfl
theorem getD_rows {ss : List (List Int)} {p : List Nat} (h : ∀ i ∈ p, i < ss.length) : (p.map fun i => (ss.map listI).getD i .none) = (p.map fun i => ss.getD i []).map listI := by
  rw [List.map_map]
  refine List.map_congr_left fun i hi => ?_
  rw [List.getD_eq_getElem?_getD, List.getElem?_map, List.getElem?_eq_getElem (h i hi)]
  show listI _ = listI (ss.getD i [])
  rw [List.getD_eq_getElem?_getD, List.getElem?_eq_getElem (h i hi)]; rfl
theorem perm_lt {n : Nat} {p : List Nat} (hp : p.Perm (List.range n)) : ∀ i ∈ p, i < n := fun i hi => by have := hp.mem_iff.mp hi; rwa [List.mem_range] at this
set_option maxHeartbeats 8000000 in
theorem law_spec {X : Cx} {s₁ : Shared} {aC aQ cC PC cL PL : Addr} {fdC : FuncData} {v0 : Value} (F : Fine X) (G : Lw X.B aC aQ) (hn : 70 ≤ X.n) (hκ : X.κ = closable (fScope stL).names) (hsc : X.env.scope = fScope stL) (ns : List Int) (hl : ns.length ≤ 63)
    (L : LFr X s₁ (slotsOf X.env (ρs ns aC aQ .un .un .un .un .un .un .un)) aC fdC stC kS (argOf stC 0) (retPos (st1 stC)).1 (retPos (st1 stC)).2 cC PC cL PL v0 none []) :
    Blk X [] (ρs ns aC aQ .un .un .un .un .un .un .un) (fBody stL) (fun zz1 zz2 => False) (LawR true s₁) := by
  have hz0 : (ns.map D.int).length ≤ 1000000 := by rw [List.length_map]; lia
  -- script
  refine assign F (Ev.toS (Ev.cast (ev_slice (ev_val F (by (with_reducible (repeat (first | exact List.mem_cons_self | apply List.mem_cons_of_mem))))) evO_none (evO_some ev_int) evO_none (by simp) hz0) (d' := listD ns) ?_)) (by (with_reducible (repeat (first | exact Put.here rfl | apply Put.there)))) ?_
  · rw [sliceL_to _ _ (by decide), ← List.map_take, List.take_of_length_le (by show ns.length ≤ 63; lia)]
  -- rows, alphabet
  refine law_rows F hl fun aA => law_alph F hl fun P s okP => ?_
  obtain ⟨rs, ers⟩ : ∃ rs, rs = rowsF ns := ⟨_, rfl⟩
  obtain ⟨al, eal⟩ : ∃ al, al = alD ns := ⟨_, rfl⟩
  rw [← ers, ← eal] at okP
  have nd : al.Nodup := by rw [eal]; exact alph_nodup _
  have hal : al.length ≤ 63 := by rw [eal]; have := alph_len ns.reverse; rw [List.length_reverse] at this; unfold alD; lia
  have hrl : ∀ r ∈ rs, r.length ≤ 63 := fun r hr => by rw [ers] at hr; have := row_len hr; lia
  have hrs : rs.length ≤ 64 := by rw [ers]; have := rows_len ns; lia
  have hfl : rs.flatten.length ≤ 63 := by rw [ers]; have := flat_len ns; lia
  have hG : ∀ r ∈ rs, ∀ a ∈ r, letter a ∈ al := fun r hr a ha => by
    rw [ers] at hr
    obtain ⟨x, hx, e, h6⟩ := (rows_facts ns).2 r hr a ha
    rw [e, eal]
    exact alph_mem (List.mem_reverse.mpr hx) h6
  clear ers eal
  have kd : X.env.kindOf (Str.ofString "alphabet") = some .cell := by unfold Env.kindOf; rw [hsc]; rfl
  obtain ⟨cA, hcA⟩ := cell_at (x := Str.ofString "alphabet") okP.ok (by (with_reducible (repeat (first | exact List.mem_cons_self | apply List.mem_cons_of_mem)))) kd
  -- key
  refine (blk_mkL (ρ := ρs ns aC aQ (.val true (rowsD rs)) .un .un .un .un (.val false (listD al)) .un) (pl := (Str.ofString "script", .val true (listD ns))) (clos := [(Str.ofString "alphabet", cA)]) (f := fun e => ρs ns aC aQ (.val true (rowsD rs)) .un .un .un .un (.val false (listD al)) e) F (by lia) (L.less (slots_sub (ρs_sub ⟨fun zz1 => rfl, fun zz1 => rfl, fun zz1 => rfl, fun zz1 => rfl, fun zz1 => rfl, fun zz1 => rfl, fun zz1 => rfl⟩))) (by intro p hp; revert p hp; simp [Ent.simple]) (by (with_reducible (repeat (first | exact List.mem_cons_self | apply List.mem_cons_of_mem)))) (by unfold Env.kindOf; rw [hsc]; rfl) (by (with_reducible (repeat (first | exact List.mem_cons_self | apply List.mem_cons_of_mem))))
    rfl (closure_one (free_one (by decide +kernel)) hcA rfl) (by simp) rfl rfl rfl (by decide +kernel) (by (with_reducible (repeat (first | exact PutF.here rfl | apply PutF.there)))) (fun zz1 => rfl) fun X1 c lam pm c' ctv cK PK m1 okE1 ks1 ecv fb1 F1 L1 => ?_) P s okP
  have G1 := G.re m1
  have hsc1 : X1.env.scope = fScope stL := by rw [m1.env]; exact hsc
  have hκ1 : X1.κ = closable (fScope stL).names := m1.κ.trans hκ
  have hn1 := m1.n
  have K1 := ks1.kin
  have T1 : X1.B.T = slotsOf X1.env (ρs ns aC aQ (.val true (rowsD rs)) .un .un .un .un (.val false (listD al)) .un) := by rw [m1.T, m1.env]
  have Lm1 : LamC X1.B c.v stK (Str.ofString "alphabet") (.tmp true (listD al)) := by
    obtain ⟨cA', e, ci⟩ := cell_list (x := Str.ofString "alphabet") (pl := (Str.ofString "script", .val true (listD ns))) F1 okE1 m1.h T1 (by (with_reducible (repeat (first | exact List.mem_cons_self | apply List.mem_cons_of_mem)))) (by unfold Env.kindOf; rw [hsc1]; rfl) (by (with_reducible (repeat (first | exact List.mem_cons_self | apply List.mem_cons_of_mem)))) (by unfold Env.kindOf; rw [hsc1]; rfl)
    rw [m1.env, hcA] at e
    cases e
    exact ⟨lam, _, _, pm, c', ctv, ecv, fb1, ci⟩
  refine blk_still (x := Str.ofString "key") (ρ' := ρs ns aC aQ (.val true (rowsD rs)) .un .un .un .un (.val false (listD al)) (.val false (.val (.ref c.C)))) (by (with_reducible (repeat (first | exact List.mem_cons_self | apply List.mem_cons_of_mem)))) (by (with_reducible (repeat (first | exact Put.here rfl | apply Put.there)))) ?_
  -- signs
  refine assign_comp (α := List Int) (xs := rs) (φ := listI) (out := fun r => r.flatMap fun a => [D.int a]) (ρ' := ρs ns aC aQ (.val true (rowsD rs)) .un (.val true (listD rs.flatten)) .un .un (.val false (listD al)) (.val false (.val (.ref c.C)))) F1 (by decide +kernel) rfl (kap (by rw [hκ1]; decide +kernel)) ⟨_, .head _⟩
    (.loc (.loc (.loc .nil))) (src_list (ev_val F1 (by (with_reducible (repeat (first | exact List.mem_cons_self | apply List.mem_cons_of_mem)))))) ?_ ?_ ?_ ?_
  · intro X2 W2 acc hB2 hn2 hκ2 F2 ac r hr
    exact ⟨_, true, tgtC_name F2 (by (with_reducible (repeat (first | exact PutU.here | apply PutU.there)))), tstAll_nil, fun zz1 no => inner_gen rfl (α := Int) (xs := r) (φ := .int) (out := fun a => [D.int a]) F2 no (src_list (ev_val F2 (by (with_reducible (repeat (first | exact List.mem_cons_self | apply List.mem_cons_of_mem)))))) (fun a ha => ⟨_, true, tgtC_name F2 (by (with_reducible (repeat (first | exact PutU.here | apply PutU.there)))), tstAll_nil, fun zz1 no => inner_emit F2 ac no rfl (ev_val F2 (by (with_reducible (repeat (first | exact List.mem_cons_self | apply List.mem_cons_of_mem))))), fun h => by cases h⟩), fun h => by cases h⟩
  · rw [flat_ints, List.length_map]; lia
  · rw [flat_ints]; (with_reducible (repeat (first | exact Put.here rfl | apply Put.there)))
  obtain ⟨ss, ess⟩ : ∃ ss, ss = rs.flatten := ⟨_, rfl⟩
  have hss : ∀ a ∈ ss, letter a ∈ al := fun a ha => by
    rw [ess] at ha
    obtain ⟨r, hr, ha⟩ := List.mem_flatten.mp ha
    exact hG r hr a ha
  have hsl : ss.length ≤ 63 := by rw [ess]; exact hfl
  rw [← ess]
  -- due
  refine assign_comp (α := Int) (xs := al) (φ := .int) (out := fun c => ss.flatMap fun a => if letter a == c then [D.int a] else []) (ρ' := ρs ns aC aQ (.val true (rowsD rs)) .un (.val true (listD ss)) (.val true (listD (dueV al ss))) .un (.val false (listD al)) (.val false (.val (.ref c.C)))) F1 (by decide +kernel) rfl (kap (by rw [hκ1]; decide +kernel)) ⟨_, .head _⟩
    (.loc (.loc (.loc (.free (by (with_reducible (repeat (first | exact List.mem_cons_self | apply List.mem_cons_of_mem)))) rfl .nil)))) (src_list (ev_val F1 (by (with_reducible (repeat (first | exact List.mem_cons_self | apply List.mem_cons_of_mem)))))) ?_ ?_ ?_ ?_
  · intro X2 W2 acc hB2 hn2 hκ2 F2 ac r hr
    refine ⟨_, true, tgtC_name F2 (by (with_reducible (repeat (first | exact PutU.here | apply PutU.there)))), tstAll_nil, fun zz1 no => inner_gen rfl (α := Int) (xs := ss) (φ := .int) (out := fun a => if letter a == r then [D.int a] else []) F2 no (src_list (ev_val F2 (by (with_reducible (repeat (first | exact List.mem_cons_self | apply List.mem_cons_of_mem)))))) (fun a ha => ⟨_, letter a == r, tgtC_name F2 (by (with_reducible (repeat (first | exact PutU.here | apply PutU.there)))), tstAll_one (tst_cmp F2 (ev_fdiv (ev_val F2 (by (with_reducible (repeat (first | exact List.mem_cons_self | apply List.mem_cons_of_mem))))) ev_int (by decide) (by decide)) (ev_val F2 (by (with_reducible (repeat (first | exact List.mem_cons_self | apply List.mem_cons_of_mem))))) cmp_eq), fun h no => ?_, fun h => ?_⟩), fun h => by cases h⟩
    · rw [h, if_pos rfl]; exact inner_emit F2 ac no rfl (ev_val F2 (by (with_reducible (repeat (first | exact List.mem_cons_self | apply List.mem_cons_of_mem)))))
    · rw [h]; rfl
  · rw [due_ints, List.length_map]
    refine Nat.le_trans (flatMap_le (k := 63) (fun c => Nat.le_trans (List.length_filter_le ..) hsl) al) (Nat.le_trans (Nat.mul_le_mul_right 63 hal) (by decide))
  · rw [due_ints]; (with_reducible (repeat (first | exact Put.here rfl | apply Put.there)))
  -- sorted(signs, key=key) != due
  refine blk_if_ret (c := false) (tst_cmp F1 (ev_sortK (lt := fun i j => decide (gOf al (ss.getD i 0) < gOf al (ss.getD j 0))) (es := (dueV al ss).map .int) F1 (by lia) K1 init_st (by (with_reducible (repeat (first | exact List.mem_cons_self | apply List.mem_cons_of_mem)))) (by (with_reducible (repeat (first | exact List.mem_cons_self | apply List.mem_cons_of_mem)))) (by decide +kernel) (by (with_reducible (repeat (first | exact List.mem_cons_self | apply List.mem_cons_of_mem)))) (by decide +kernel) (by rw [List.length_map]; lia) (fun d hd => by obtain ⟨a, _, rfl⟩ := List.mem_map.mp hd; rfl) (num_ord _) (fun p hp hs => ?_) fun N i j a b ea eb => ?_) (ev_val F1 (by (with_reducible (repeat (first | exact List.mem_cons_self | apply List.mem_cons_of_mem))))) ((pl_row _).ne (by decide))) (fun h => by cases h) fun zz1 => ?_
  · rw [List.length_map] at hp
    rw [getD_ints (perm_lt hp), due_only nd hss hp hs]
  · rw [List.getElem?_map] at ea eb
    cases qa : ss[i]? with
    | none => rw [qa] at ea; cases ea
    | some x =>
      cases qb : ss[j]? with
      | none => rw [qb] at eb; cases eb
      | some y =>
        rw [qa] at ea; rw [qb] at eb
        cases ea; cases eb
        rw [List.getD_eq_getElem?_getD, List.getD_eq_getElem?_getD, qa, qb]
        exact lt_spec (X := X1.in2) K1 Lm1 (by show 2 ≤ X1.n - 1; lia) (by lia) (hss _ (List.mem_of_getElem? qa)) (hss _ (List.mem_of_getElem? qb))
  -- told
  intro P1 s1 ok1
  have kk1 : X1.env.kindOf (Str.ofString "key") = some .cell := by unfold Env.kindOf; rw [hsc1]; rfl
  obtain ⟨cY, hcY⟩ := cell_at (x := Str.ofString "key") ok1.ok (by (with_reducible (repeat (first | exact List.mem_cons_self | apply List.mem_cons_of_mem)))) kk1
  have sub1 : ∀ a ∈ slotsOf X1.env (ρs ns aC aQ (.val true (rowsD rs)) .un (.val true (listD ss)) (.val true (listD (dueV al ss))) .un (.val false (listD al)) (.val false (.val (.ref c.C)))), a ∈ slotsOf X1.env (ρs ns aC aQ (.val true (rowsD rs)) .un .un .un .un (.val false (listD al)) .un) := slots_sub (ρs_sub ⟨id, id, fun zz1 => rfl, fun zz1 => rfl, id, id, fun zz1 => rfl⟩)
  have L1' : LFr X1 s₁ (slotsOf X1.env (ρs ns aC aQ (.val true (rowsD rs)) .un (.val true (listD ss)) (.val true (listD (dueV al ss))) .un (.val false (listD al)) (.val false (.val (.ref c.C))))) aC fdC stC kS (argOf stC 0) (retPos (st1 stC)).1 (retPos (st1 stC)).2 cC PC cL PL v0 _ _ := L1.less (by rw [← m1.env]; exact sub1)
  refine (blk_sortF (pl := (Str.ofString "script", .val true (listD ns))) (clos := [(Str.ofString "key", cY)]) (lt := fun i j => lexG (gOf al) (rs.getD i []) (rs.getD j [])) (ks := rs.map (keysD c.C)) (es := (shelfV al 63 0 rs).map listI) (ds := rs.map listI) (f := fun e => ρs ns aC aQ (.val true (rowsD rs)) .un (.val true (listD ss)) (.val true (listD (dueV al ss))) e (.val false (listD al)) (.val false (.val (.ref c.C))))
    F1 (by lia) L1' (by intro p hp; revert p hp; simp [Ent.simple]) (by (with_reducible (repeat (first | exact List.mem_cons_self | apply List.mem_cons_of_mem)))) (by unfold Env.kindOf; rw [hsc1]; rfl) (by (with_reducible (repeat (first | exact List.mem_cons_self | apply List.mem_cons_of_mem)))) (by (with_reducible (repeat (first | exact List.mem_cons_self | apply List.mem_cons_of_mem)))) (by decide +kernel)
    rfl (closure_one (free_one (by decide +kernel)) hcY rfl) (by decide) rfl rfl rfl (by decide +kernel) (by rw [List.length_map]; exact hrs) (by rw [List.length_map, List.length_map]) (lexG_ord _ _) (fun p hp hs => ?_) (by (with_reducible (repeat (first | exact PutF.here rfl | apply PutF.there)))) (fun zz1 => rfl) fun X2 lam2 pm2 c2 ctv2 m2 okE2 F2 fb2 => ?_) P1 s1 ok1
  · rw [List.length_map] at hp
    rw [getD_rows (perm_lt hp), shelf_only nd (fun r hr => ⟨hrl r hr, hG r hr⟩) hp hs]
  have G2 := G1.re m2
  have hn2 := m2.n
  have hsc2 : X2.env.scope = fScope stL := by rw [m2.env]; exact hsc1
  have ks2 := m2.ks c kS ks1 (by rw [T1]; exact sub1)
  have K2 := ks2.kin
  have T2 : X2.B.T = slotsOf X2.env (ρs ns aC aQ (.val true (rowsD rs)) .un (.val true (listD ss)) (.val true (listD (dueV al ss))) .un (.val false (listD al)) (.val false (.val (.ref c.C)))) := by rw [m2.T, m2.env]
  have Lm2 : LamC X2.B c.v stK (Str.ofString "alphabet") (.tmp true (listD al)) := by
    obtain ⟨cA', e, ci⟩ := cell_list (x := Str.ofString "alphabet") (pl := (Str.ofString "script", .val true (listD ns))) F2 okE2 m2.h T2 (by (with_reducible (repeat (first | exact List.mem_cons_self | apply List.mem_cons_of_mem)))) (by unfold Env.kindOf; rw [hsc2]; rfl) (by (with_reducible (repeat (first | exact List.mem_cons_self | apply List.mem_cons_of_mem)))) (by unfold Env.kindOf; rw [hsc2]; rfl)
    rw [m2.env, m1.env, hcA] at e
    cases e
    exact ⟨lam, _, _, pm, c', ctv, ecv, m2.fnb _ _ fb1, ci⟩
  have Ly2 : LamC X2.B (.ref lam2) stT (Str.ofString "key") (.val true (.val (.ref c.C))) := by
    obtain ⟨cY', e, ci⟩ := cell_val (x := Str.ofString "key") (pl := (Str.ofString "script", .val true (listD ns))) F2 okE2 m2.h T2 (by (with_reducible (repeat (first | exact List.mem_cons_self | apply List.mem_cons_of_mem)))) (by unfold Env.kindOf; rw [hsc2]; rfl) (by (with_reducible (repeat (first | exact List.mem_cons_self | apply List.mem_cons_of_mem)))) (by unfold Env.kindOf; rw [hsc2]; rfl)
    rw [m2.env, hcY] at e
    cases e
    exact ⟨lam2, _, _, pm2, c2, ctv2, rfl, fb2, ci⟩
  refine ⟨fun N i d kd ed ek => ?_, keyLt_keyLists (G := fun a => letter a ∈ al) (by lia) K2 (fun a => by simp) hG (fun X' W a b hB hn' ga gb => eq_spec (hB ▸ K2) (hB ▸ Lm2) (by lia) (by lia) ga gb) (fun X' W a b hB hn' ga gb => lt_spec (hB ▸ K2) (hB ▸ Lm2) (by lia) (by lia) ga gb), fun L2 => ?_⟩
  · rw [List.getElem?_map] at ed ek
    cases q : rs[i]? with
    | none => rw [q] at ed; cases ed
    | some r =>
      rw [q] at ed ek
      cases ed; cases ek
      have z := row_spec (X := X2.in2) (W := N) (r := r) K2 Ly2 (by show 3 ≤ X2.n - 1; lia) (Nat.le_trans (hrl r (List.mem_of_getElem? q)) (by decide))
      exact fun s ρ vs F hs hr => wpAny_mono (z s ρ vs F hs hr) (fun v s' h => ⟨h.1, h.2.1⟩) fun zz1 zz2 z => z
  · refine L2.ret (ret_f (ev_cmp F2 (ev_val F2 (by (with_reducible (repeat (first | exact List.mem_cons_self | apply List.mem_cons_of_mem))))) (ev_callR F2 (by (with_reducible (repeat (first | exact List.mem_cons_self | apply List.mem_cons_of_mem)))) (evs_cons (ev_val F2 (by (with_reducible (repeat (first | exact List.mem_cons_self | apply List.mem_cons_of_mem))))) (evs_cons (Ev.flat (Ev.cast (d' := natD 0) ev_int rfl)) (evs_cons (ev_val F2 (by (with_reducible (repeat (first | exact List.mem_cons_self | apply List.mem_cons_of_mem))))) evs_nil))) (shelf_spec nd (by lia) 63 X2 [] aC aQ 0 rs G2 (by lia) (fun r hr => ⟨by have := hrl r hr; lia, by have := hrl r hr; lia⟩) (by lia)) (DefAt.keep G2.dQ)) ((pl_rows _).eq (by decide))))
end Mine


set_option maxHeartbeats 8000000
set_option pp.deepTerms false
set_option pp.deepTerms.threshold 3
namespace Mine
noncomputable def fragAt (h : Heap) (as : List Addr) : Frag := as.filterMap fun a => (h.get? a).map fun o => (a, o)
theorem fragAt_in (h : Heap) : ∀ as : List Addr, (fragAt h as).In h := by
  intro as
  induction as with
  | nil => intro a o e; cases e
  | cons b as ih =>
    intro a o e
    unfold fragAt at e ih
    cases q : h.get? b with
    | none => rw [List.filterMap_cons, q] at e; exact ih a o e
    | some z =>
      rw [List.filterMap_cons, q] at e
      simp only [Option.map_some, List.lookup] at e
      split at e
      · rename_i c; cases e; rw [beq_iff_eq.mp c]; exact q
      · exact ih a o e
noncomputable def isNone2 : Option (Option Value) → Bool
  | some none => true
  | _ => false
theorem isNone2_eq {x : Option (Option Value)} (h : isNone2 x = true) : x = some none := by
  match x with
  | some none => rfl
  | none => cases h
  | some (some _) => cases h
noncomputable def isStr2 : Option (Option Value) → Bool
  | some (some (.str _ _)) => true
  | _ => false
theorem isStr2_eq {x : Option (Option Value)} (h : isStr2 x = true) : ∃ s t, x = some (some (.str s t)) := by
  unfold isStr2 at h
  split at h
  · exact ⟨_, _, rfl⟩
  · cases h
structure Seen (cC PC cL PL : Addr) (h : Heap) (K : Frag) : Prop where
  i : K.In h
  c : tabIn K "cmp_to_key" = some (cC, PC)
  l : tabIn K "law" = some (cL, PL)
  a : nsIn K cStatics "thirdparty.any" = some none
  o : nsIn K mainGlobals "object" = some none
  n : ∃ s t, nsIn K mainGlobals "__name__" = some (some (.str s t))
noncomputable def hook (as : List Addr) (cC PC cL PL : Addr) : Hook where
  α := Option (Addr × Addr) × Option (Addr × Addr) × Bool × Bool × Bool
  obs s := (tabIn (fragAt s.heap as) "cmp_to_key", tabIn (fragAt s.heap as) "law", isNone2 (nsIn (fragAt s.heap as) cStatics "thirdparty.any"), isNone2 (nsIn (fragAt s.heap as) mainGlobals "object"), isStr2 (nsIn (fragAt s.heap as) mainGlobals "__name__"))
  val _ := (some (cC, PC), some (cL, PL), true, true, true)
  says _ h := ∃ K, Seen cC PC cL PL h K
  of w s x := ⟨fragAt s.heap as, fragAt_in _ _, congrArg (·.1) x, congrArg (·.2.1) x, isNone2_eq (congrArg (·.2.2.1) x), isNone2_eq (congrArg (·.2.2.2.1) x), isStr2_eq (congrArg (·.2.2.2.2) x)⟩
  keeps w h h' x k := x.imp fun K s => { s with i := s.i.keeps k }
noncomputable def vw : Program := { pg with main := { pg.main with body := [stAt pg 1, stAt pg 3, stAt pg 4] } }
end Mine
theorem PySem.Challenge.cw_dm0116_10_holds : PySem.Challenge.rw_dm0116_10.Holds := by
  refine holds_law (by kernel_rfl) fun said => ?_
  refine holds_open (q := Mine.vw) (loose := []) (Xt := fun s => xlAt Mine.vw [] s && recOk (RowW.records (OpenRow.toRowW PySem.Challenge.rw_dm0116_10.row)) s) (XP := XL Mine.vw []) (Yf := Hook.obs (Mine.hook [3, 2, 21, 20, 31, 30] 20 16 30 28)) (Ya := Hook.val (Mine.hook [3, 2, 21, 20, 31, 30] 20 16 30 28)) (YP := Hook.says (Mine.hook [3, 2, 21, 20, 31, 30] 20 16 30 28)) (N := 880) (fun w => by kernel_rfl) (Hook.of _) (Hook.keeps _) (fun s e => xl_of s (Bool.and_eq_true_iff.mp e).1) XL.keeps (by rfl) (by rfl) (by rfl) (fun s e => recFacts_of (Bool.and_eq_true_iff.mp e).2) (by rfl) said (by decide +kernel) ⟨rfl, rfl, rfl, rfl, rfl, by decide +kernel⟩ ?hw ?hc
  (case hw => w_witness2)
  intro w s₀ s₁ mg mb G Y fa o pm cd doc dV kV ho hd hcd hD hmg hg args vals as hpre hlay hrd hwl hlo
  obtain ⟨K, S⟩ := Y
  obtain ⟨s0, t0, hS⟩ := S.n
  refine Ground.open G ?_
  intro T B D TE TW
  wrow_args hpre hlay hrd hwl hlo
  rename_i ns hs hlay0 hL1 hr1 hl2 l5 l4 a vs l1 hL ra w1 r0 hI hrr hc1 hc2
  clear B D TE TW hD hcd hd
  obtain ⟨aC, eC, dC⟩ := Mine.fn_base (prog := PySem.Challenge.rw_dm0116_10.row.prog) (w := w) T (st := Mine.stAt Mine.pg 1) (.head _) rfl rfl rfl rfl rfl rfl (by decide +kernel)
  obtain ⟨aQ, eQ, dQ⟩ := Mine.fn_base (prog := PySem.Challenge.rw_dm0116_10.row.prog) (w := w) T (st := Mine.stAt Mine.pg 3) (.tail _ (.head _)) rfl rfl rfl rfl rfl rfl (by decide +kernel)
  have LW : Mine.Lw (Mine.base0 PySem.Challenge.rw_dm0116_10.row.prog w T) aC aQ :=
    { len := Mine.glob_bi T _ (by decide +kernel) rfl
      sorted := Mine.glob_bi T _ (by decide +kernel) rfl
      gC := .inl eC
      gQ := .inl eQ
      dQ := dQ }
  have hl : ns.length ≤ 63 := by (first | lia | omega)
  refine' Mine.law_mid (aC := aC) (n := 80) (b := true) (stL := Mine.stL) (stC := Mine.stC) (k := Mine.kS) S.i
    rfl
    (.loc (.loc (.loc (.cell (.loc (.loc (.cell (.cell (.glob LW.gC (.glob LW.sorted (.glob LW.gQ .nil)))))))))))
    (.here rfl)
    (.tail _ (.tail _ (.head _))) rfl rfl rfl rfl rfl rfl rfl (by decide +kernel)
    Mine.cmp_st Mine.kS_ok (.head _) rfl rfl rfl rfl rfl rfl rfl (by decide +kernel)
    rfl (tC := S.c) rfl (tL := S.l) (q1 := S.a) (q2 := hS) (q3 := ?z3) (q4 := S.o) (n1 := ?y1) (n2 := ?y2) (n3 := ?y3) (n4 := ?y4) (n5 := ?y5) hmg eC (Mine.well_list w1 hL) hI hg (by decide) (fun zz1 => rfl) ?zpost ?zrun
  case z3 => exact Mine.sm_of (T.seer rfl)
  case y1 => decide
  case y2 => decide
  case y3 => decide
  case y4 => decide
  case y5 => decide
  case zpost => first | rfl | wrow_post
  case zrun =>
    intro X fdC v0 hB hT hn hκ hsc F L
    exact Mine.law_spec F (hB ▸ LW) (by (first | lia | omega)) hκ hsc ns hl L
