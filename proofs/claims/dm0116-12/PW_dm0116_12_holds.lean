import PyProof.Rows.All
import Wide.All
import OpenK.AllK
import Wide.FinOn
import Lean
import PySem.Challenge.RW_dm0116_12
open PySem PySem.W PyProof.Rows
set_option Elab.async false
set_option maxRecDepth 100000
set_option linter.unusedVariables false
set_option genSizeOf false
set_option genSizeOfSpec false
set_option genInjectivity false


namespace Mine
open PySem PyProof.Rows

set_option genInjectivity true in
/-- plain data -/
inductive D where
  | none
  | bool (b : Bool)
  | int (i : Int)
  | str (s : Str)
  | list (ds : List D)
  | tuple (ds : List D)
  | key (c : Addr) (d : D)
  | val (v : Value)

/-- heaps: kept but for the addresses T -/
structure Ext (T : List Addr) (h h' : Heap) : Prop where
  keep : ∀ b o, b ∉ T → h.get? b = some o → h'.get? b = some o
  there : ∀ b o, h.get? b = some o → ∃ o', h'.get? b = some o'
  old : ∀ h₀, (∀ a ∈ T, h₀.get? a = Option.none) → OldK h₀ h → OldK h₀ h'

theorem Ext.of_keep {T : List Addr} {h h' : Heap} (k : ∀ b o, h.get? b = some o → h'.get? b = some o) : Ext T h h' :=
  ⟨fun b o _ e => k b o e, fun b o e => ⟨o, k b o e⟩, fun _ _ K => K.step_keeps k⟩
theorem Ext.refl (T : List Addr) (h : Heap) : Ext T h h := .of_keep fun _ _ e => e
theorem Ext.trans {T : List Addr} {h h' h'' : Heap} (x : Ext T h h') (y : Ext T h' h'') : Ext T h h'' :=
  ⟨fun b o n e => y.keep b o n (x.keep b o n e), fun b o e => let ⟨o', e'⟩ := x.there b o e; y.there b o' e', fun h₀ n K => y.old h₀ n (x.old h₀ n K)⟩
theorem Ext.strict {h h' : Heap} (x : Ext [] h h') : ∀ b o, h.get? b = some o → h'.get? b = some o := fun b o e => x.keep b o (by simp) e
theorem Ext.wider {T : List Addr} {h h' : Heap} (x : Ext [] h h') : Ext T h h' := .of_keep x.strict
theorem Ext.more {T T' : List Addr} {h h' : Heap} (x : Ext T h h') (k : ∀ a ∈ T, a ∈ T') : Ext T' h h' := ⟨fun b o n e => x.keep b o (fun z => n (k b z)) e, x.there, fun h₀ n K => x.old h₀ (fun a ha => n a (k a ha)) K⟩
theorem Ext.push {T : List Addr} {h h' : Heap} (x : Ext T h h') (o : Obj) : Ext T h (h'.push o) :=
  x.trans (.of_keep fun _ _ e => Heap.get?_push_of_some o e)

theorem oldK_extBut {h₀ h h' : Heap} (K : OldK h₀ h) {a : Addr} (ha : h₀.get? a = none) (hs : Heap.ExtBut a h h') : OldK h₀ h' := by
  have ne : ∀ b o, h₀.get? b = some o → b ≠ a := fun b o e z => by subst z; rw [ha] at e; cases e
  refine ⟨fun b o e => ?_, fun b o e => let ⟨o', ho'⟩ := K.there b o e; ⟨o', hs b o' (ne b o e) ho'⟩⟩
  rcases K.old b o e with x | ⟨t, hc, vs, more, hv, x⟩ | ⟨rfl, hc, ⟨o', es, n, ho', r⟩, z⟩
  · exact .inl (hs _ _ (ne b o e) x)
  · exact .inr (.inl ⟨t, hc, vs, more, hv, hs _ _ (ne b o e) x⟩)
  · exact .inr (.inr ⟨rfl, hc, ⟨o', es, n, hs _ _ (ne _ o e) ho', r⟩, fun key => by
      rw [OldK.staticOf_congr ((hs _ _ (ne _ o e) ho').trans ho'.symm) key]; exact z key⟩)

theorem Ext.extBut {T : List Addr} {h h' h'' : Heap} {a : Addr} (x : Ext T h h') (ha : h.get? a = none) (hs : Heap.ExtBut a h' h'') : Ext T h h'' := by
  have ne : ∀ b o, h.get? b = some o → b ≠ a := fun b o e z => by subst z; rw [ha] at e; cases e
  refine ⟨fun b o n e => hs _ _ (ne b o e) (x.keep b o n e), fun b o e => let ⟨o', e'⟩ := x.there b o e; ⟨o', hs _ _ (ne b o e) e'⟩, fun h₀ n K => ?_⟩
  refine oldK_extBut (x.old h₀ n K) ?_ hs
  cases q : h₀.get? a with
  | none => rfl
  | some o => obtain ⟨o', e'⟩ := K.there a o q; rw [ha] at e'; cases e'
/-- a slot that may be written -/
theorem Ext.slot {T : List Addr} {h h' h'' : Heap} {a : Addr} (x : Ext T h h') (ha : h.get? a = Option.none ∨ a ∈ T) (hs : Heap.ExtBut a h' h'') (hth : ∃ o, h''.get? a = some o) : Ext T h h'' := by
  rcases ha with ha | ha
  · exact x.extBut ha hs
  · refine ⟨fun b o n e => hs _ _ (fun z => n (z ▸ ha)) (x.keep b o n e), fun b o e => ?_, fun h₀ n K => oldK_extBut (x.old h₀ n K) (n a ha) hs⟩
    obtain ⟨o', e'⟩ := x.there b o e
    by_cases z : b = a
    · subst z; exact hth
    · exact ⟨o', hs _ _ z e'⟩
theorem Ext.sameBut {T : List Addr} {h h' h'' : Heap} {a : Addr} (x : Ext T h h') (ha : h.get? a = none) (hs : Heap.SameBut a h' h'') : Ext T h h'' := x.extBut ha hs.extBut

theorem Ext.fresh {T : List Addr} {h h' : Heap} (x : Ext T h h') {a : Addr} (ha : h'.get? a = none) : h.get? a = none := by
  cases q : h.get? a with
  | none => rfl
  | some o => obtain ⟨o', e'⟩ := x.there a o q; rw [ha] at e'; cases e'
theorem get_size (h : Heap) : h.get? h.objs.size = none := by
  cases q : h.get? h.objs.size with
  | none => rfl
  | some o => exact absurd (Heap.lt_size q) (Nat.lt_irrefl _)

structure SExt (T : List Addr) (s s' : Shared) : Prop where
  ext : Ext T s.heap s'.heap
  gens : s'.gens = s.gens
  os : s'.os = s.os
theorem SExt.refl (T : List Addr) (s : Shared) : SExt T s s := ⟨.refl .., rfl, rfl⟩
theorem SExt.trans {T : List Addr} {s s' s'' : Shared} (x : SExt T s s') (y : SExt T s' s'') : SExt T s s'' := ⟨x.ext.trans y.ext, y.gens.trans x.gens, y.os.trans x.os⟩
theorem SExt.wider {T : List Addr} {s s' : Shared} (x : SExt [] s s') : SExt T s s' := ⟨x.ext.wider, x.gens, x.os⟩

/-- a key of cmp_to_key's class at c -/
noncomputable def KeyAt (h : Heap) (a c : Addr) (v : Value) : Prop := ∃ o, h.get? a = some o ∧ o.cls = .ref c ∧ o.data = .plain ∧ o.slots = #[some v]

mutual
inductive Rep (W : List Addr) (h : Heap) : Value → D → Prop
  | nun : Rep W h .none .none
  | bool (b : Bool) : Rep W h (.bool b) (.bool b)
  | int (i : Int) (t : Tok) : Rep W h (.int i t) (.int i)
  | str (s : Str) (t : Tok) : Rep W h (.str s t) (.str s)
  | list {a : Addr} {vs : List Value} {ds : List D} : h.PlainList a vs.toArray → a ∉ W → Reps W h vs ds → Rep W h (.ref a) (.list ds)
  | tuple {a : Addr} {vs : List Value} {ds : List D} : h.IsTuple a vs.toArray → a ∉ W → Reps W h vs ds → Rep W h (.ref a) (.tuple ds)
  | key {a c : Addr} {v : Value} {d : D} : KeyAt h a c v → a ∉ W → Rep W h v d → Rep W h (.ref a) (.key c d)
  | val (v : Value) : Rep W h v (.val v)
inductive Reps (W : List Addr) (h : Heap) : List Value → List D → Prop
  | nil : Reps W h [] []
  | cons {v : Value} {d : D} {vs : List Value} {ds : List D} : Rep W h v d → Reps W h vs ds → Reps W h (v :: vs) (d :: ds)
end

theorem Heap.IsList.map {h h' : Heap} {a : Addr} {vs : Array Value} (x : h.PlainList a vs) (k : ∀ o, h.get? a = some o → h'.get? a = some o) : h'.PlainList a vs := x.at k

mutual
theorem Rep.move {W W' : List Addr} {h h' : Heap} (k : ∀ a o, a ∉ W → h.get? a = some o → ((∃ xs n, o.data = .seq xs n) ∨ o.data = .plain) → h'.get? a = some o ∧ a ∉ W') :
    ∀ {v : Value} {d : D}, Rep W h v d → Rep W' h' v d
  | _, _, .nun => .nun
  | _, _, .bool b => .bool b
  | _, _, .int i t => .int i t
  | _, _, .str s t => .str s t
  | _, _, .list hl hw hr => by
    obtain ⟨n, e⟩ := hl
    obtain ⟨e', hw'⟩ := k _ _ hw e (.inl ⟨_, _, rfl⟩)
    exact .list ⟨n, e'⟩ hw' (Reps.move k hr)
  | _, _, .tuple hl hw hr => by
    obtain ⟨o, e, hc, n, hd⟩ := hl
    obtain ⟨e', hw'⟩ := k _ _ hw e (.inl ⟨_, _, hd⟩)
    exact .tuple ⟨o, e', hc, n, hd⟩ hw' (Reps.move k hr)
  | _, _, .key hl hw hr => by
    obtain ⟨o, e, hc, hd, r⟩ := hl
    obtain ⟨e', hw'⟩ := k _ _ hw e (.inr hd)
    exact .key ⟨o, e', hc, hd, r⟩ hw' (Rep.move k hr)
  | _, _, .val v => .val v
theorem Reps.move {W W' : List Addr} {h h' : Heap} (k : ∀ a o, a ∉ W → h.get? a = some o → ((∃ xs n, o.data = .seq xs n) ∨ o.data = .plain) → h'.get? a = some o ∧ a ∉ W') :
    ∀ {vs : List Value} {ds : List D}, Reps W h vs ds → Reps W' h' vs ds
  | _, _, .nil => .nil
  | _, _, .cons hv hr => .cons (Rep.move k hv) (Reps.move k hr)
end

theorem Rep.keep {W : List Addr} {h h' : Heap} {v : Value} {d : D} (x : Rep W h v d) (k : ∀ b o, h.get? b = some o → h'.get? b = some o) : Rep W h' v d :=
  x.move fun a o hw e _ => ⟨k a o e, hw⟩
theorem Reps.keep {W : List Addr} {h h' : Heap} {v : List Value} {d : List D} (x : Reps W h v d) (k : ∀ b o, h.get? b = some o → h'.get? b = some o) : Reps W h' v d :=
  x.move fun a o hw e _ => ⟨k a o e, hw⟩
theorem Rep.ext {W : List Addr} {h h' : Heap} {v : Value} {d : D} (x : Rep W h v d) (k : Ext [] h h') : Rep W h' v d := x.keep k.strict
theorem Reps.ext {W : List Addr} {h h' : Heap} {v : List Value} {d : List D} (x : Reps W h v d) (k : Ext [] h h') : Reps W h' v d := x.keep k.strict
theorem Rep.less {W W' : List Addr} {h : Heap} {v : Value} {d : D} (x : Rep W h v d) (k : ∀ a ∈ W', a ∈ W) : Rep W' h v d :=
  x.move fun a o hw e _ => ⟨e, fun z => hw (k a z)⟩
theorem Reps.less {W W' : List Addr} {h : Heap} {v : List Value} {d : List D} (x : Reps W h v d) (k : ∀ a ∈ W', a ∈ W) : Reps W' h v d :=
  x.move fun a o hw e _ => ⟨e, fun z => hw (k a z)⟩
/-- one more masked address, not there before -/
theorem Rep.mask {W : List Addr} {h h' : Heap} {v : Value} {d : D} {a : Addr} (x : Rep W h v d) (k : ∀ b o, h.get? b = some o → h'.get? b = some o) (ha : h.get? a = none) : Rep (a :: W) h' v d :=
  x.move fun b o hw e _ => ⟨k b o e, fun z => by
    rcases List.mem_cons.mp z with rfl | z
    · rw [ha] at e; cases e
    · exact hw z⟩
theorem Reps.mask {W : List Addr} {h h' : Heap} {v : List Value} {d : List D} {a : Addr} (x : Reps W h v d) (k : ∀ b o, h.get? b = some o → h'.get? b = some o) (ha : h.get? a = none) : Reps (a :: W) h' v d :=
  x.move fun b o hw e _ => ⟨k b o e, fun z => by
    rcases List.mem_cons.mp z with rfl | z
    · rw [ha] at e; cases e
    · exact hw z⟩
/-- what is no data at a -/
noncomputable def NoData (h : Heap) (a : Addr) : Prop := ∀ o, h.get? a = some o → ¬ ((∃ xs n, o.data = .seq xs n) ∨ o.data = .plain)
theorem Rep.extBut {W : List Addr} {h h' : Heap} {v : Value} {d : D} {a : Addr} (x : Rep W h v d) (k : Heap.ExtBut a h h') (ha : a ∈ W ∨ NoData h a) : Rep W h' v d :=
  x.move fun b o hw e q => ⟨k b o (fun z => by
    subst z
    rcases ha with ha | ha
    · exact hw ha
    · exact ha o e q) e, hw⟩
theorem Reps.extBut {W : List Addr} {h h' : Heap} {v : List Value} {d : List D} {a : Addr} (x : Reps W h v d) (k : Heap.ExtBut a h h') (ha : a ∈ W ∨ NoData h a) : Reps W h' v d :=
  x.move fun b o hw e q => ⟨k b o (fun z => by
    subst z
    rcases ha with ha | ha
    · exact hw ha
    · exact ha o e q) e, hw⟩

theorem Reps.length {W : List Addr} {h : Heap} {vs : List Value} {ds : List D} (x : Reps W h vs ds) : vs.length = ds.length := by
  induction vs generalizing ds with
  | nil => cases x; rfl
  | cons v vs ih => cases x with | cons _ r => rw [List.length_cons, List.length_cons, ih r]
theorem Reps.append {W : List Addr} {h : Heap} {vs : List Value} {ds : List D} {us : List Value} {es : List D} (x : Reps W h vs ds) (y : Reps W h us es) : Reps W h (vs ++ us) (ds ++ es) := by
  induction vs generalizing ds with
  | nil => cases x; exact y
  | cons v vs ih => cases x with | cons a r => exact .cons a (ih r)
theorem Reps.get {W : List Addr} {h : Heap} {vs : List Value} {ds : List D} (x : Reps W h vs ds) {i : Nat} {d : D} (e : ds[i]? = some d) : ∃ v, vs[i]? = some v ∧ Rep W h v d := by
  induction vs generalizing ds i with
  | nil => cases x; cases e
  | cons v vs ih =>
    cases x with
    | cons a r =>
      cases i with
      | zero => cases e; exact ⟨v, rfl, a⟩
      | succ i => exact ih r (by simpa using e)
theorem Reps.take {W : List Addr} {h : Heap} {vs : List Value} {ds : List D} (x : Reps W h vs ds) (n : Nat) : Reps W h (vs.take n) (ds.take n) := by
  induction vs generalizing ds n with
  | nil => cases x; simp; exact .nil
  | cons v vs ih =>
    cases x with
    | cons a r =>
      cases n with
      | zero => exact .nil
      | succ n => exact .cons a (ih r n)
theorem Reps.drop {W : List Addr} {h : Heap} {vs : List Value} {ds : List D} (x : Reps W h vs ds) (n : Nat) : Reps W h (vs.drop n) (ds.drop n) := by
  induction vs generalizing ds n with
  | nil => cases x; simp; exact .nil
  | cons v vs ih =>
    cases x with
    | cons a r =>
      cases n with
      | zero => exact .cons a r
      | succ n => exact ih r n

/-- a list whose own address may be masked -/
noncomputable def RepT (W : List Addr) (h : Heap) (v : Value) : D → Prop
  | .list ds => ∃ a vs, v = .ref a ∧ h.PlainList a vs.toArray ∧ Reps W h vs ds
  | d => Rep W h v d
theorem Rep.toT {W : List Addr} {h : Heap} {v : Value} {d : D} (x : Rep W h v d) : RepT W h v d := by
  cases d with
  | list ds => cases x with | list hl hw hr => exact ⟨_, _, rfl, hl, hr⟩
  | _ => exact x
theorem RepT.keep {W : List Addr} {h h' : Heap} {v : Value} {d : D} (x : RepT W h v d) (k : ∀ b o, h.get? b = some o → h'.get? b = some o) : RepT W h' v d := by
  cases d with
  | list ds =>
    obtain ⟨a, vs, rfl, hl, hr⟩ := x
    exact ⟨a, vs, rfl, Mine.Heap.IsList.map hl (k a), hr.keep k⟩
  | _ => exact Rep.keep x k
theorem RepT.ext {W : List Addr} {h h' : Heap} {v : Value} {d : D} (x : RepT W h v d) (k : Ext [] h h') : RepT W h' v d := x.keep k.strict

end Mine



namespace Mine
open PySem PyProof.Rows

structure Base where
  prog : Program
  w : World
  h₁ : Heap
  T : List Addr
  mg : Str → Option Value
  mb : Str → Option Value
  nsg : h₁.Ns mainGlobals mg
  nsb : h₁.Ns builtinsNs mb
  lim : h₁.NoLimit
  tg : mainGlobals ∉ T
  tb : builtinsNs ∉ T
  ts : cStatics ∉ T

structure Cx where
  B : Base
  A : Around
  env : Env
  sE : Shared
  n : Nat
  T : List Addr
  κ : List Str

noncomputable def Cx.M (X : Cx) : Model := model X.B.prog X.B.w

structure Fine (X : Cx) : Prop where
  kind : X.env.scope.kind = .function
  globals : X.env.globals = mainGlobals
  builtins : X.env.builtins = builtinsNs
  start : Ext X.B.T X.B.h₁ X.sE.heap
  tsub : ∀ a ∈ X.T, a ∈ X.B.T
  kd : ∀ x ∈ X.κ, X.env.kindOf x = some .cell ∨ X.env.kindOf x = some .free
  hnd : X.A.handled = Option.none
  dep : X.A.depth + X.n < recursionLimit
  uni : X.A.units + 8 * X.n + 100 < cLine
  cells : ∀ x y c, X.env.cells.lookup x = some c → X.env.cells.lookup y = some c → x = y

inductive Ent where
  | un
  | val (rw : Bool) (d : D)
  | tmp (rw : Bool) (d : D)
  | own (a : Addr) (ns : List Int)
  | gl (v : Value)

noncomputable abbrev Ent.rw : Ent → Bool
  | .un => true
  | .val b _ => b
  | .tmp b _ => b
  | .own _ _ => true
  | .gl _ => false
noncomputable abbrev Ent.ro : Ent → Ent
  | .un => .val false .none
  | .val _ d => .val false d
  | .tmp _ d => .tmp false d
  | .own _ ns => .tmp false (.list (ns.map .int))
  | .gl v => .gl v

noncomputable abbrev Ent.known : Ent → Bool
  | .un => false
  | .gl _ => false
  | _ => true

noncomputable def EntOk (hE : Heap) (W : List Addr) (h : Heap) (ov : Option Value) : Ent → Prop
  | .un => True
  | .val _ d => ∃ v, ov = some v ∧ Rep W h v d
  | .tmp _ d => ∃ v, ov = some v ∧ RepT W h v d ∧ ∀ b, v = .ref b → ∃ o, hE.get? b = some o
  | .own a ns => ov = some (.ref a) ∧ a ∈ W ∧ hE.get? a = Option.none ∧ ∃ vs, h.PlainList a vs.toArray ∧ Reps W h vs (ns.map .int)
  | .gl _ => False

noncomputable def GlobIs (B : Base) (x : Str) (v : Value) : Prop := B.mg x = some v ∨ (B.mg x = Option.none ∧ B.mb x = some v)

noncomputable def Holds1 (h : Heap) (env : Env) (x : Str) (ov : Option Value) : Prop :=
  (env.kindOf x = some .local ∧ ∃ m, h.Ns env.locals m ∧ m x = ov) ∨
  ((env.kindOf x = some .cell ∨ env.kindOf x = some .free) ∧ ∃ c, env.cells.lookup x = some c ∧ h.IsCell c ov)

noncomputable def Fresh1 (T : List Addr) (hE : Heap) (env : Env) (x : Str) : Prop :=
  (env.kindOf x = some .local → hE.get? env.locals = Option.none ∨ env.locals ∈ T) ∧ env.kindOf x ≠ some .free ∧ (∀ c, env.kindOf x = some .cell → env.cells.lookup x = some c → hE.get? c = Option.none ∨ c ∈ T)

noncomputable def EntryOk (X : Cx) (W : List Addr) (h : Heap) (p : Str × Ent) : Prop :=
  (∃ v, p.2 = .gl v ∧ X.env.kindOf p.1 = some .globalImplicit ∧ GlobIs X.B p.1 v) ∨
  ((∃ ov, Holds1 h X.env p.1 ov ∧ EntOk X.sE.heap W h ov p.2) ∧ (p.2.rw = true → Fresh1 X.T X.sE.heap X.env p.1))

structure Ok (X : Cx) (W : List Addr) (ρ : List (Str × Ent)) (s : Shared) : Prop where
  ext : SExt X.T X.sE s
  nd : (ρ.map (·.1)).Nodup
  ent : ∀ p ∈ ρ, EntryOk X W s.heap p
  own : ∀ p ∈ ρ, ∀ q ∈ ρ, ∀ a ns b ms, p.2 = .own a ns → q.2 = .own b ms → p.1 ≠ q.1 → a ≠ b
  wal : ∀ a ∈ W, ∃ o, s.heap.get? a = some o

theorem EntOk.keep {hE : Heap} {W : List Addr} {h h' : Heap} {ov : Option Value} {e : Ent} (x : EntOk hE W h ov e) (k : ∀ b o, h.get? b = some o → h'.get? b = some o) : EntOk hE W h' ov e := by
  cases e with
  | un => trivial
  | val _ d => obtain ⟨v, e, r⟩ := x; exact ⟨v, e, r.keep k⟩
  | tmp _ d => obtain ⟨v, e, r, z⟩ := x; exact ⟨v, e, r.keep k, z⟩
  | own a ns => obtain ⟨e, w, f, vs, l, r⟩ := x; exact ⟨e, w, f, vs, Mine.Heap.IsList.map l (k a), r.keep k⟩
  | gl v => cases x
theorem Holds1.keep {h h' : Heap} {env : Env} {x : Str} {ov : Option Value} (y : Holds1 h env x ov) (k : ∀ b o, h.get? b = some o → h'.get? b = some o) : Holds1 h' env x ov := by
  rcases y with ⟨a, m, n, e⟩ | ⟨a, c, e, n⟩
  · exact .inl ⟨a, m, n.keeps k, e⟩
  · exact .inr ⟨a, c, e, n.keeps k⟩
theorem Ok.mono {X : Cx} {W : List Addr} {ρ : List (Str × Ent)} {s s' : Shared} (x : Ok X W ρ s) (k : SExt [] s s') : Ok X W ρ s' := by
  refine ⟨x.ext.trans k.wider, x.nd, fun p hp => ?_, x.own, fun a ha => let ⟨o, e⟩ := x.wal a ha; ⟨o, k.ext.strict a o e⟩⟩
  rcases x.ent p hp with g | ⟨⟨ov, a, b⟩, c⟩
  · exact .inl g
  · exact .inr ⟨⟨ov, a.keep k.ext.strict, b.keep k.ext.strict⟩, c⟩
theorem Ok.base {X : Cx} {W : List Addr} {ρ : List (Str × Ent)} {s : Shared} (F : Fine X) (x : Ok X W ρ s) : Ext X.B.T X.B.h₁ s.heap := F.start.trans (x.ext.ext.more F.tsub)

theorem ns_ext {T : List Addr} {h h' : Heap} {a : Addr} {m : Str → Option Value} (x : Ext T h h') (n : h.Ns a m) (ha : a ∉ T) : h'.Ns a m :=
  let ⟨o, es, ep, e, r⟩ := n; ⟨o, es, ep, x.keep _ _ ha e, r⟩
theorem Ok.nsg {X : Cx} {W : List Addr} {ρ : List (Str × Ent)} {s : Shared} (F : Fine X) (x : Ok X W ρ s) : s.heap.Ns mainGlobals X.B.mg := ns_ext (x.base F) X.B.nsg X.B.tg
theorem Ok.nsb {X : Cx} {W : List Addr} {ρ : List (Str × Ent)} {s : Shared} (F : Fine X) (x : Ok X W ρ s) : s.heap.Ns builtinsNs X.B.mb := ns_ext (x.base F) X.B.nsb X.B.tb
theorem Ok.lim {X : Cx} {W : List Addr} {ρ : List (Str × Ent)} {s : Shared} (F : Fine X) (x : Ok X W ρ s) : s.heap.NoLimit := by
  obtain ⟨mc, n, e⟩ := X.B.lim
  exact ⟨mc, ns_ext (x.base F) n X.B.ts, e⟩

inductive Lv where
  | t | s | f
noncomputable def Post (l : Lv) (W : List Addr) (h : Heap) (v : Value) (h' : Heap) (d : D) : Prop := match l with
  | .t => RepT W h' v d
  | .s => Rep W h' v d
  | .f => Rep W h' v d ∧ ∀ a, v = .ref a → h.get? a = Option.none

noncomputable abbrev NoE : Value → Shared → Prop := fun _ _ => False

noncomputable def Ev (X : Cx) (W : List Addr) (ρ : List (Str × Ent)) (l : Lv) (e : Expr) (d : D) : Prop :=
  ∀ s, Ok X W ρ s → wpAny X.M X.A (eval e X.env) (fun v s' => SExt [] s s' ∧ Post l W s.heap v s'.heap d) NoE s

section
variable {X : Cx} {W : List Addr} {ρ : List (Str × Ent)}
theorem Post.toT {l : Lv} {h h' : Heap} {v : Value} {d : D} (x : Post l W h v h' d) : RepT W h' v d := by
  cases l with
  | t => exact x
  | s => exact Rep.toT x
  | f => exact Rep.toT x.1
theorem Ev.toT {l : Lv} {e : Expr} {d : D} (x : Ev X W ρ l e d) : Ev X W ρ .t e d := fun s hs => wpAny_mono (x s hs) (fun v s' h => ⟨h.1, h.2.toT⟩) fun _ _ h => h
theorem Ev.toS {e : Expr} {d : D} (x : Ev X W ρ .f e d) : Ev X W ρ .s e d := fun s hs => wpAny_mono (x s hs) (fun v s' h => ⟨h.1, h.2.1⟩) fun _ _ h => h
/-- what is no list, tuple or key -/
noncomputable def D.flat : D → Bool
  | .none | .bool _ | .int _ | .str _ => true
  | _ => false
theorem Ev.flat {l l' : Lv} {e : Expr} {d : D} (x : Ev X W ρ l e d) (hd : d.flat = true := by rfl) : Ev X W ρ l' e d := fun s hs => wpAny_mono (x s hs) (fun v s' h => ⟨h.1, by
  have r : Rep W s'.heap v d := by
    have := h.2.toT
    cases d <;> first | exact this | cases hd
  cases l' with
  | t => exact r.toT
  | s => exact r
  | f => exact ⟨r, fun a e => by subst e; cases r <;> cases hd⟩⟩) fun _ _ h => h

theorem Ev.cast {l : Lv} {e : Expr} {d d' : D} (x : Ev X W ρ l e d) (h : d = d') : Ev X W ρ l e d' := h ▸ x
theorem sext_toks {T : List Addr} (s : Shared) (n : Nat) : SExt T s { s with toks := n } := ⟨.refl .., rfl, rfl⟩
theorem sext_push {T : List Addr} (s : Shared) (o : Obj) : SExt T s { s with heap := s.heap.push o } := ⟨(Ext.refl ..).push o, rfl, rfl⟩
theorem sext_keep {T : List Addr} (s : Shared) (h : Heap) (n : Nat) (k : ∀ b o, s.heap.get? b = some o → h.get? b = some o) : SExt T s { s with heap := h, toks := n } := ⟨.of_keep k, rfl, rfl⟩

theorem ev_int {i : Int} {k : Nat} {pos : Pos} : Ev X W ρ .f (.Constant (.int i) k pos) (.int i) := fun s hs =>
  wpAny_Constant_int ⟨sext_toks _ _, .int _ _, fun _ e => by cases e⟩
theorem ev_bool {b : Bool} {k : Nat} {pos : Pos} : Ev X W ρ .f (.Constant (.bool b) k pos) (.bool b) := fun s hs =>
  wpAny_Constant_bool ⟨SExt.refl .., .bool _, fun _ e => by cases e⟩
theorem load1 {env : Env} {x : Str} {v : Value} {M : Model} {A : Around} {E : Value → Shared → Prop} {Q : Value → Shared → Prop} {s : Shared} (hk : env.scope.kind = .function) (h : Holds1 s.heap env x (some v)) (q : Q v s) (hx : (x == ("__classdict__" : Str)) = false) :
    wpAny M A (loadName env x) Q E s := by
  rcases h with ⟨a, m, n, e⟩ | ⟨a | a, c, e, n⟩
  · exact wpAny_loadName_local hk a n e q
  · exact wpAny_loadName_cell hk a e n q
  · exact wpAny_loadName_free hk a e n q hx

/-- a name that may be read -/
noncomputable def okName (x : Str) : Bool := !(x == ("__debug__" : Str)) && !(x == ("__classdict__" : Str))
theorem okName_d {x : Str} (h : okName x = true) : (x == ("__debug__" : Str)) = false ∧ (x == ("__classdict__" : Str)) = false := by
  unfold okName at h
  simp only [Bool.and_eq_true, Bool.not_eq_true'] at h
  exact h

theorem ev_val {x : Str} {pos : Pos} {b : Bool} {d : D} (F : Fine X) (hm : (x, Ent.val b d) ∈ ρ) (hx : okName x = true := by decide +kernel) : Ev X W ρ .s (.Name x pos) d := fun s hs => by
  obtain ⟨_, z, _⟩ | ⟨⟨ov, h1, v, rfl, r⟩, _⟩ := hs.ent _ hm
  · cases z
  exact wpAny_Name (load1 F.kind h1 ⟨SExt.refl .., r⟩ (okName_d hx).2) (okName_d hx).1
theorem ev_tmp {x : Str} {pos : Pos} {b : Bool} {d : D} (F : Fine X) (hm : (x, Ent.tmp b d) ∈ ρ) (hx : okName x = true := by decide +kernel) : Ev X W ρ .t (.Name x pos) d := fun s hs => by
  obtain ⟨_, z, _⟩ | ⟨⟨ov, h1, v, rfl, r, _⟩, _⟩ := hs.ent _ hm
  · cases z
  exact wpAny_Name (load1 F.kind h1 ⟨SExt.refl .., r⟩ (okName_d hx).2) (okName_d hx).1
theorem ev_own {x : Str} {pos : Pos} {a : Addr} {ns : List Int} (F : Fine X) (hm : (x, Ent.own a ns) ∈ ρ) (hx : okName x = true := by decide +kernel) : Ev X W ρ .t (.Name x pos) (.list (ns.map .int)) := fun s hs => by
  obtain ⟨_, z, _⟩ | ⟨⟨ov, h1, rfl, _, _, vs, hl, r⟩, _⟩ := hs.ent _ hm
  · cases z
  exact wpAny_Name (load1 F.kind h1 ⟨SExt.refl .., a, vs, rfl, hl, r⟩ (okName_d hx).2) (okName_d hx).1
theorem ev_gl {x : Str} {pos : Pos} {v : Value} (F : Fine X) (hm : (x, Ent.gl v) ∈ ρ) (hx : okName x = true := by decide +kernel) : Ev X W ρ .s (.Name x pos) (.val v) := fun s hs => by
  obtain ⟨v', z, hk, hg⟩ | ⟨⟨ov, _, z⟩, _⟩ := hs.ent _ hm
  · cases z
    have n := hs.nsg F
    rw [← F.globals] at n
    have m := hs.nsb F
    rw [← F.builtins] at m
    rcases hg with hv | ⟨hg, hv⟩
    · exact Calls.Name_function_global F.kind hk (Calls.loadGlobal_global n hv ⟨SExt.refl .., .val v⟩) (okName_d hx).1
    · exact Calls.Name_function_global F.kind hk (Calls.loadGlobal_builtin n hg m hv ⟨SExt.refl .., .val v⟩) (okName_d hx).1
  · cases z

/-- two parts one after the other -/
theorem ev_two {f : Value → Value → Sem Value} {l₁ l₂ : Lv} {e₁ e₂ : Expr} {d₁ d₂ : D} {s : Shared} {Q : Value → Shared → Prop} (h₁ : Ev X W ρ l₁ e₁ d₁) (h₂ : Ev X W ρ l₂ e₂ d₂) (hs : Ok X W ρ s)
    (q : ∀ a b s', SExt [] s s' → RepT W s'.heap a d₁ → RepT W s'.heap b d₂ → wpAny X.M X.A (f a b) Q NoE s') :
    wpAny X.M X.A (eval e₁ X.env) (fun a s₁ => wpAny X.M X.A (eval e₂ X.env) (fun b s₂ => wpAny X.M X.A (f a b) Q NoE s₂) NoE s₁) NoE s :=
  wpAny_mono (h₁ s hs) (fun a s₁ k₁ => wpAny_mono (h₂ s₁ (hs.mono k₁.1)) (fun b s₂ k₂ => q a b s₂ (k₁.1.trans k₂.1) (k₁.2.toT.ext k₂.1.ext) k₂.2.toT) fun _ _ h => h) fun _ _ h => h

theorem repT_int {h : Heap} {v : Value} {i : Int} (x : RepT W h v (.int i)) : ∃ t, v = .int i t := by
  have y : Rep W h v (.int i) := x
  cases y with | int _ t => exact ⟨t, rfl⟩
theorem repT_bool {h : Heap} {v : Value} {b : Bool} (x : RepT W h v (.bool b)) : v = .bool b := by
  have y : Rep W h v (.bool b) := x
  cases y with | bool _ => rfl
end

section
variable {X : Cx} {W : List Addr} {ρ : List (Str × Ent)} {l₁ l₂ : Lv} {e₁ e₂ : Expr} {a b : Int} {pos : Pos}

theorem ev_binint {op : Operator} {r : Int} (h₁ : Ev X W ρ l₁ e₁ (.int a)) (h₂ : Ev X W ρ l₂ e₂ (.int b))
    (h : ∀ (Q : Value → Shared → Prop) (s : Shared) (t u : Tok), (∀ tk tk', Q (.int r tk) { s with toks := tk' }) → wpAny X.M X.A (binaryOp op (.int a t) (.int b u)) Q NoE s) : Ev X W ρ .f (.BinOp e₁ op e₂ pos) (.int r) := fun s hs => by
  refine wpAny_BinOp (ev_two (f := fun a b => binaryOp op a b) h₁ h₂ hs fun va vb s' k ra rb => ?_)
  obtain ⟨t, rfl⟩ := repT_int ra
  obtain ⟨u, rfl⟩ := repT_int rb
  exact h _ _ _ _ fun tk tk' => ⟨k.trans (sext_toks _ _), .int _ _, fun _ e => by cases e⟩
theorem ev_add (h₁ : Ev X W ρ l₁ e₁ (.int a)) (h₂ : Ev X W ρ l₂ e₂ (.int b)) : Ev X W ρ .f (.BinOp e₁ .Add e₂ pos) (.int (a + b)) :=
  ev_binint h₁ h₂ fun Q s t u q => add_int (q _ _)
theorem ev_sub (h₁ : Ev X W ρ l₁ e₁ (.int a)) (h₂ : Ev X W ρ l₂ e₂ (.int b)) : Ev X W ρ .f (.BinOp e₁ .Sub e₂ pos) (.int (a - b)) :=
  ev_binint h₁ h₂ fun Q s t u q => sub_int (q _ _)
theorem ev_mod (h₁ : Ev X W ρ l₁ e₁ (.int a)) (h₂ : Ev X W ρ l₂ e₂ (.int b)) (hb : b ≠ 0) : Ev X W ρ .f (.BinOp e₁ .Mod e₂ pos) (.int (a.fmod b)) :=
  ev_binint h₁ h₂ fun Q s t u q => mod_int hb (q _ _)
theorem ev_fdiv (h₁ : Ev X W ρ l₁ e₁ (.int a)) (h₂ : Ev X W ρ l₂ e₂ (.int b)) (hb : b ≠ 0) (hz : b.natAbs < 1073741824) : Ev X W ρ .f (.BinOp e₁ .FloorDiv e₂ pos) (.int (a.fdiv b)) :=
  ev_binint h₁ h₂ fun Q s t u q => floordiv_int hb (q _ _) (.inl (PyProof.noPylong_small hz))
/-- what a comparison gives -/
noncomputable def CmpV (X : Cx) (W : List Addr) (op : CmpOp) (d₁ d₂ : D) (c : Bool) : Prop :=
  ∀ (s : Shared) (va vb : Value), (∀ ρ, Fine X → Ok X W ρ s → RepT W s.heap va d₁ → RepT W s.heap vb d₂ → wpAny X.M X.A (compareOp op va vb) (fun v s' => SExt [] s s' ∧ v = .bool c) NoE s)
theorem cmp_int {op : CmpOp} {c : Bool} (h : ∀ (Q : Value → Shared → Prop) (s : Shared) (t u : Tok), Q (.bool c) s → wpAny X.M X.A (compareOp op (.int a t) (.int b u)) Q NoE s) : CmpV X W op (.int a) (.int b) c := by
  intro s va vb ρ F hs ra rb
  obtain ⟨t, rfl⟩ := repT_int ra
  obtain ⟨u, rfl⟩ := repT_int rb
  exact h _ _ _ _ ⟨.refl .., rfl⟩
theorem cmp_lt : CmpV X W .Lt (.int a) (.int b) (decide (a < b)) := cmp_int fun Q s t u q => lt_int q
theorem cmp_gt : CmpV X W .Gt (.int a) (.int b) (decide (b < a)) := cmp_int fun Q s t u q => gt_int q
theorem cmp_eq : CmpV X W .Eq (.int a) (.int b) (a == b) := cmp_int fun Q s t u q => eq_int q
theorem ev_cmp {op : CmpOp} {d₁ d₂ : D} {c : Bool} (F : Fine X) (h₁ : Ev X W ρ l₁ e₁ d₁) (h₂ : Ev X W ρ l₂ e₂ d₂) (h : CmpV X W op d₁ d₂ c) (hm : behindInMarks op e₂ = false := by with_unfolding_all rfl) :
    Ev X W ρ .f (.Compare e₁ [op] [e₂] pos) (.bool c) := fun s hs => by
  refine wpAny_Compare1 (ev_two (f := fun a b => compareOp op a b) h₁ h₂ hs fun va vb s' k ra rb => ?_) hm
  exact wpAny_mono (h s' va vb ρ F (hs.mono k) ra rb) (fun v s'' q => ⟨k.trans q.1, by rw [q.2]; exact .bool c, fun _ e => by rw [q.2] at e; cases e⟩) fun _ _ h => h
end

/-- the truth of a test -/
noncomputable def Tst (X : Cx) (W : List Addr) (ρ : List (Str × Ent)) (e : Expr) (c : Bool) : Prop :=
  ∀ s, Ok X W ρ s → wpAny X.M X.A (isTrue e X.env (eval e X.env)) (fun v s' => SExt [] s s' ∧ v = c) NoE s

section
variable {X : Cx} {W : List Addr} {ρ : List (Str × Ent)} {l l₁ l₂ : Lv} {e e₁ e₂ : Expr} {pos : Pos} {c c' : Bool}
theorem tst_cmp {op : CmpOp} {d₁ d₂ : D} (F : Fine X) (h₁ : Ev X W ρ l₁ e₁ d₁) (h₂ : Ev X W ρ l₂ e₂ d₂) (h : CmpV X W op d₁ d₂ c) (hm : behindInMarks op e₂ = false := by with_unfolding_all rfl) :
    Tst X W ρ (.Compare e₁ [op] [e₂] pos) c := fun s hs => by
  refine wpAny_isTrue_Compare1 (wpAny_mono (h₁ s hs) (fun a s₁ k₁ => wpAny_mono (h₂ s₁ (hs.mono k₁.1)) (fun b s₂ k₂ => ?_) fun _ _ h => h) fun _ _ h => h) hm
  refine wpAny_mono (h s₂ a b ρ F (hs.mono (k₁.1.trans k₂.1)) (k₁.2.toT.ext k₂.1.ext) k₂.2.toT) (fun v s'' q => ?_) fun _ _ h => h
  rw [q.2]
  exact wpAny_truthy_bool ⟨(k₁.1.trans k₂.1).trans q.1, rfl⟩
theorem tst_bool (h : Ev X W ρ l e (.bool c)) (he : ∀ (env : Env) (whole : Sem Value), isTrue e env whole = (do let v ← whole; standAt e.pos; holding [v] (truthy v)) := by intros; rfl) : Tst X W ρ e c := fun s hs => by
  refine wpAny_isTrue_value (wpAny_mono (h s hs) (fun v s₁ k => ?_) fun _ _ h => h) (he _ _)
  rw [repT_bool k.2.toT]
  exact wpAny_truthy_bool ⟨k.1, rfl⟩
/-- and: the right side is asked only where the left holds -/
theorem tst_and (h : Tst X W ρ e₁ c) (h' : c = true → Tst X W ρ e₂ c') : Tst X W ρ (.BoolOp .And [e₁, e₂] pos) (c && c') := fun s hs => by
  refine wpAny_isTrue_BoolOp (wpAny_allTrue_And_cons (wpAny_mono (h s hs) (fun b s₁ k => ?_) fun _ _ h => h))
  obtain ⟨k, rfl⟩ := k
  cases b with
  | false => exact ⟨k, rfl⟩
  | true =>
    refine wpAny_allTrue_And_cons (wpAny_mono (h' rfl s₁ (hs.mono k)) (fun b s₂ k' => ?_) fun _ _ h => h)
    obtain ⟨k', rfl⟩ := k'
    cases b with
    | false => exact ⟨k.trans k', rfl⟩
    | true => exact wpAny_allTrue_And_nil ⟨k.trans k', rfl⟩
end
end Mine



namespace Mine
open PySem PyProof.Rows

inductive RepTs (W : List Addr) (h : Heap) : List Value → List D → Prop
  | nil : RepTs W h [] []
  | cons {v : Value} {d : D} {vs : List Value} {ds : List D} : RepT W h v d → RepTs W h vs ds → RepTs W h (v :: vs) (d :: ds)
theorem RepTs.keep {W : List Addr} {h h' : Heap} {vs : List Value} {ds : List D} (x : RepTs W h vs ds) (k : ∀ b o, h.get? b = some o → h'.get? b = some o) : RepTs W h' vs ds := by
  induction x with
  | nil => exact .nil
  | cons a _ ih => exact .cons (a.keep k) ih
theorem RepTs.ext {W : List Addr} {h h' : Heap} {vs : List Value} {ds : List D} (x : RepTs W h vs ds) (k : Ext [] h h') : RepTs W h' vs ds := x.keep k.strict
theorem Reps.toT {W : List Addr} {h : Heap} {vs : List Value} {ds : List D} (x : Reps W h vs ds) : RepTs W h vs ds := by
  induction vs generalizing ds with
  | nil => cases x; exact .nil
  | cons v vs ih => cases x with | cons a r => exact .cons a.toT (ih r)

section
variable {X : Cx} {W : List Addr} {ρ : List (Str × Ent)}

/-- several parts, kept -/
noncomputable def Evs (X : Cx) (W : List Addr) (ρ : List (Str × Ent)) (es : List Expr) (ds : List D) : Prop :=
  ∀ (pos : Pos) s, Ok X W ρ s → wpAny X.M X.A (spliced (backTo pos (starEach es X.env))) (fun vs s' => SExt [] s s' ∧ Reps W s'.heap vs ds) NoE s
noncomputable def EvTs (X : Cx) (W : List Addr) (ρ : List (Str × Ent)) (es : List Expr) (ds : List D) : Prop :=
  ∀ (pos : Pos) s, Ok X W ρ s → wpAny X.M X.A (spliced (backTo pos (starEach es X.env))) (fun vs s' => SExt [] s s' ∧ RepTs W s'.heap vs ds) NoE s
theorem evs_nil : Evs X W ρ [] [] := fun pos s hs => wpAny_items_nil ⟨.refl .., .nil⟩
theorem evs_cons {e : Expr} {es : List Expr} {d : D} {ds : List D} (h : Ev X W ρ .s e d) (h' : Evs X W ρ es ds) (he : starEach (e :: es) X.env = (false, eval e X.env) :: starEach es X.env := by rfl) : Evs X W ρ (e :: es) (d :: ds) := fun pos s hs =>
  wpAny_items_cons (wpAny_mono (h s hs) (fun v s₁ k => wpAny_mono (h' pos s₁ (hs.mono k.1)) (fun vs s₂ k' => ⟨k.1.trans k'.1, .cons (Rep.ext k.2 k'.1.ext) k'.2⟩) fun _ _ x => x) fun _ _ x => x) he
theorem evTs_nil : EvTs X W ρ [] [] := fun pos s hs => wpAny_items_nil ⟨.refl .., .nil⟩
theorem evTs_cons {l : Lv} {e : Expr} {es : List Expr} {d : D} {ds : List D} (h : Ev X W ρ l e d) (h' : EvTs X W ρ es ds) (he : starEach (e :: es) X.env = (false, eval e X.env) :: starEach es X.env := by rfl) : EvTs X W ρ (e :: es) (d :: ds) := fun pos s hs =>
  wpAny_items_cons (wpAny_mono (h s hs) (fun v s₁ k => wpAny_mono (h' pos s₁ (hs.mono k.1)) (fun vs s₂ k' => ⟨k.1.trans k'.1, .cons (k.2.toT.ext k'.1.ext) k'.2⟩) fun _ _ x => x) fun _ _ x => x) he

/-- a new list -/
theorem new_list {s₀ s : Shared} {vs : List Value} {ds : List D} (hs : Ok X W ρ s₀) (k : SExt [] s₀ s) (r : Reps W s.heap vs ds) :
    SExt [] s₀ { s with heap := s.heap.push { cls := .type "list", data := .seq vs.toArray } } ∧
    Post .f W s₀.heap (.ref s.heap.objs.size) (s.heap.push { cls := .type "list", data := .seq vs.toArray }) (.list ds) := by
  have k' := k.trans (sext_push (T := []) s { cls := .type "list", data := .seq vs.toArray })
  have fr : s.heap.get? s.heap.objs.size = Option.none := get_size _
  refine ⟨k', .list ⟨_, Heap.get?_push_size _ rfl⟩ (fun hw => ?_) (r.keep fun b o e => Heap.get?_push_of_some _ e), fun a e => ?_⟩
  · obtain ⟨o, e⟩ := hs.wal _ hw
    have := k.ext.strict _ _ e
    rw [fr] at this; cases this
  · cases e
    exact k.ext.fresh fr
theorem new_tuple {s₀ s : Shared} {vs : List Value} {ds : List D} (hs : Ok X W ρ s₀) (k : SExt [] s₀ s) (r : Reps W s.heap vs ds) :
    SExt [] s₀ { s with heap := s.heap.push { cls := .type "tuple", data := .seq vs.toArray } } ∧
    Post .f W s₀.heap (.ref s.heap.objs.size) (s.heap.push { cls := .type "tuple", data := .seq vs.toArray }) (.tuple ds) := by
  have k' := k.trans (sext_push (T := []) s { cls := .type "tuple", data := .seq vs.toArray })
  have fr : s.heap.get? s.heap.objs.size = Option.none := get_size _
  refine ⟨k', .tuple ⟨_, Heap.get?_push_size _ rfl, rfl, _, rfl⟩ (fun hw => ?_) (r.keep fun b o e => Heap.get?_push_of_some _ e), fun a e => ?_⟩
  · obtain ⟨o, e⟩ := hs.wal _ hw
    have := k.ext.strict _ _ e
    rw [fr] at this; cases this
  · cases e
    exact k.ext.fresh fr

theorem ev_list {es : List Expr} {ds : List D} {pos : Pos} (h : Evs X W ρ es ds) (hz : ds.length ≤ 1000 := by first | decide | simp) : Ev X W ρ .f (.List es pos) (.list ds) := fun s hs => by
  refine wpAny_List (wpAny_mono (h pos s hs) (fun vs s₁ k => ⟨?_, new_list hs k.1 k.2⟩) fun _ _ x => x)
  rw [k.2.length, sizeLine_eq]; omega
theorem ev_tuple {es : List Expr} {ds : List D} {k : Nat} {pos : Pos} (h : Evs X W ρ es ds) (hz : ds.length ≤ 1000 := by first | decide | simp) : Ev X W ρ .f (.Tuple es k pos) (.tuple ds) := fun s hs => by
  refine wpAny_Tuple (wpAny_mono (h pos s hs) (fun vs s₁ k => ⟨?_, new_tuple hs k.1 k.2⟩) fun _ _ x => x)
  rw [k.2.length, sizeLine_eq]; omega

/-- lists joined -/
theorem ev_cat {l₁ l₂ : Lv} {e₁ e₂ : Expr} {as bs : List D} {pos : Pos} (h₁ : Ev X W ρ l₁ e₁ (.list as)) (h₂ : Ev X W ρ l₂ e₂ (.list bs)) (hz : as.length + bs.length ≤ 1000000) : Ev X W ρ .f (.BinOp e₁ .Add e₂ pos) (.list (as ++ bs)) := fun s hs => by
  refine wpAny_BinOp (ev_two (f := fun a b => binaryOp .Add a b) h₁ h₂ hs fun va vb s' k ra rb => ?_)
  obtain ⟨l, vs, rfl, hl, r₁⟩ := ra
  obtain ⟨b, ws, rfl, hb, r₂⟩ := rb
  have hsz : vs.length + ws.length ≤ sizeLine := by rw [r₁.length, r₂.length, sizeLine_eq]; omega
  obtain ⟨⟨cls, dd, data, sl⟩, ho, hc, n, hd⟩ := hl.isList
  obtain ⟨⟨cls2, dd2, data2, sl2⟩, ho2, hc2, n2, hd2⟩ := hb.isList
  simp only at hc hd hc2 hd2
  subst hc hd hc2 hd2
  have e : vs.toArray ++ ws.toArray = (vs ++ ws).toArray := by simp
  refine concat_meets ⟨_, ho, rfl⟩ ⟨_, ho2, rfl⟩ noFill_list_add seq_list_add PySem.F.slot_list_add PySem.F.entry_list_add (PySem.F.args_list_add_2 _ _) (list_addW l b vs.toArray ws.toArray n n2 dd dd2 sl sl2 (by simpa using hsz)) ⟨ho, ho2, ?_⟩
  rw [e]
  exact new_list hs k (r₁.append r₂)

/-- an item -/
noncomputable def itemAt {α : Type} (xs : List α) (k : Int) : Option α := if 0 ≤ k then xs[k.toNat]? else if -(xs.length : Int) ≤ k then xs[(k + xs.length).toNat]? else Option.none
theorem subscript_tail {e₁ e₂ : Expr} {s : Shared} {o i : Value} {T id : String} {Q : Value → Shared → Prop} (hT : s.TypeIs o T)
    (hl : typeLookup (.type T) "__getitem__" = pure (some (.builtin id))) (hg : wpAny X.M X.A (getItem o i) Q NoE s) (hs : ∃ ops, subscripted e₂ false o i = operate ops (getItem o i)) :
    wpAny X.M X.A (getitemInPython o >>= fun b => subscripted e₂ b o i >>= fun r => letTemporaryGo e₁ o r >>= fun _ => pure r) Q NoE s := by
  obtain ⟨ops, hs⟩ := hs
  exact tail_any hT hl hg hs
theorem subscripted_any (e₂ : Expr) (o i : Value) : ∃ ops, subscripted e₂ false o i = operate ops (getItem o i) := by
  unfold subscripted
  split
  · exact ⟨_, rfl⟩
  · rename_i h; cases h
  · exact ⟨_, rfl⟩
theorem getItem_item {s : Shared} {a : Addr} {vs : List Value} {ds : List D} {k : Int} {t : Tok} {d : D} (hl : s.heap.PlainList a vs.toArray) (r : Reps W s.heap vs ds) (hk : itemAt ds k = some d) (hz : ds.length ≤ 1000000) {Q : Value → Shared → Prop}
    (q : ∀ v, Rep W s.heap v d → Q v s) : wpAny X.M X.A (getItem (.ref a) (.int k t)) Q NoE s := by
  unfold itemAt at hk
  split at hk
  · rename_i h0
    obtain ⟨v, e, rv⟩ := r.get hk
    have hlt : k.toNat < ds.length := (List.getElem?_eq_some_iff.mp hk).1
    exact wpAny_getItem_list hl.isList h0 (by omega) (by simpa using e) (q v rv)
  · split at hk
    · rename_i h0 h1
      obtain ⟨v, e, rv⟩ := r.get hk
      have hn := r.length
      refine wpAny_getItem_list_neg hl.isList (by omega) ?_ (by omega) ?_ (q v rv)
      · rw [List.size_toArray, hn]; exact h1
      · rw [List.size_toArray, hn]; simpa using e
    · cases hk
theorem ev_item {l₁ l₂ : Lv} {e₁ e₂ : Expr} {ds : List D} {k : Int} {d : D} {pos : Pos} (h₁ : Ev X W ρ l₁ e₁ (.list ds)) (h₂ : Ev X W ρ l₂ e₂ (.int k)) (hk : itemAt ds k = some d) (hz : ds.length ≤ 1000000) :
    Ev X W ρ .s (.Subscript e₁ e₂ pos) d := fun s hs => by
  rw [eval_Subscript]
  refine wpAny_bind (wpAny_mono (h₁ s hs) (fun o s₁ k₁ => wpAny_bind (wpAny_holding (wpAny_mono (h₂ s₁ (hs.mono k₁.1)) (fun i s₂ k₂ => wpAny_bind (wpAny_standAt ?_)) fun _ _ x => x))) fun _ _ x => x)
  obtain ⟨a, vs, rfl, hl, r⟩ := k₁.2.toT.ext k₂.1.ext
  obtain ⟨t, rfl⟩ := repT_int k₂.2.toT
  exact subscript_tail hl.isList.typeIs slot_list_getitem.lookup (getItem_item hl r hk hz fun v rv => ⟨k₁.1.trans k₂.1, rv⟩) (subscripted_any _ _ _)

end

end Mine



namespace Mine
open PySem PyProof.Rows

inductive Put : List (Str × Ent) → Str → Ent → List (Str × Ent) → Prop
  | here {ρ : List (Str × Ent)} {x : Str} {e₀ e : Ent} : e₀.rw = true → Put ((x, e₀) :: ρ) x e ((x, e) :: ρ)
  | there {ρ ρ' : List (Str × Ent)} {x : Str} {e : Ent} {p : Str × Ent} : Put ρ x e ρ' → Put (p :: ρ) x e (p :: ρ')
theorem Put.keys {ρ ρ' : List (Str × Ent)} {x : Str} {e : Ent} (h : Put ρ x e ρ') : ρ'.map (·.1) = ρ.map (·.1) := by
  induction h with
  | here _ => rfl
  | there _ ih => rw [List.map_cons, List.map_cons, ih]
theorem Put.mem {ρ ρ' : List (Str × Ent)} {x : Str} {e : Ent} (h : Put ρ x e ρ') : ∃ e₀, (x, e₀) ∈ ρ ∧ e₀.rw = true := by
  induction h with
  | here hr => exact ⟨_, .head _, hr⟩
  | there _ ih => obtain ⟨e₀, m, r⟩ := ih; exact ⟨e₀, .tail _ m, r⟩
theorem Put.cases {ρ ρ' : List (Str × Ent)} {x : Str} {e : Ent} (h : Put ρ x e ρ') (nd : (ρ.map (·.1)).Nodup) : ∀ q ∈ ρ', q = (x, e) ∨ (q ∈ ρ ∧ q.1 ≠ x) := by
  induction h with
  | here _ =>
    intro q hq
    rw [List.map_cons, List.nodup_cons] at nd
    rcases List.mem_cons.mp hq with rfl | hq
    · exact .inl rfl
    · exact .inr ⟨.tail _ hq, fun e => nd.1 (by have := List.mem_map_of_mem (f := (·.1)) hq; rw [e] at this; exact this)⟩
  | @there ρ ρ' x e p h ih =>
    intro q hq
    rw [List.map_cons, List.nodup_cons] at nd
    rcases List.mem_cons.mp hq with rfl | hq
    · refine .inr ⟨.head _, fun e' => ?_⟩
      obtain ⟨e₀, m, _⟩ := h.mem
      exact nd.1 (by have := List.mem_map_of_mem (f := (·.1)) m; rw [← e'] at this; exact this)
    · rcases ih nd.2 q hq with e' | ⟨m, n⟩
      · exact .inl e'
      · exact .inr ⟨.tail _ m, n⟩

/-- objects that a statement must leave -/
noncomputable def Fixed (o : Obj) : Prop := (∃ vs, o.data = .fields vs) ∨ (∃ xs n, o.data = .seq xs n)
inductive Pr where
  | obj (a : Addr) (o : Obj)
  | reps (vs : List Value) (ds : List D)
noncomputable def PrOk (W : List Addr) (h : Heap) : Pr → Prop
  | .obj a o => h.get? a = some o ∧ a ∉ W ∧ Fixed o
  | .reps vs ds => Reps W h vs ds
noncomputable def Prot (P : List Pr) (W : List Addr) (h : Heap) : Prop := ∀ p ∈ P, PrOk W h p
theorem Prot.keep {P : List Pr} {W : List Addr} {h h' : Heap} (x : Prot P W h) (k : ∀ b o, h.get? b = some o → h'.get? b = some o) : Prot P W h' :=
  fun p hp => by
    have y := x p hp
    cases p with
    | obj a o => exact ⟨k _ _ y.1, y.2⟩
    | reps vs ds => exact Reps.keep y k

structure OkP (X : Cx) (W : List Addr) (P : List Pr) (ρ : List (Str × Ent)) (s : Shared) : Prop where
  ok : Ok X W ρ s
  prot : Prot P W s.heap
theorem OkP.mono {X : Cx} {W : List Addr} {P : List Pr} {ρ : List (Str × Ent)} {s s' : Shared} (x : OkP X W P ρ s) (k : SExt [] s s') : OkP X W P ρ s' := ⟨x.ok.mono k, x.prot.keep k.ext.strict⟩

noncomputable def Sub (ρ' ρ : List (Str × Ent)) : Prop := (∀ p ∈ ρ', p ∈ ρ) ∧ (ρ'.map (·.1)).Nodup
/-- forget one entry -/
theorem Ok.forget {X : Cx} {W : List Addr} {ρ ρ' : List (Str × Ent)} {s : Shared} (x : Ok X W ρ s) (h : ∀ p ∈ ρ', p ∈ ρ ∨ (p.2 = .un ∧ ∃ e, (p.1, e) ∈ ρ ∧ e.rw = true)) (nd : (ρ'.map (·.1)).Nodup) : Ok X W ρ' s := by
  refine ⟨x.ext, nd, fun p hp => ?_, fun p hp q hq a ns b ms e1 e2 => ?_, x.wal⟩
  · rcases h p hp with m | ⟨e, e', m, r⟩
    · exact x.ent p m
    · rcases x.ent _ m with ⟨v, z, _⟩ | ⟨⟨ov, a, b⟩, c⟩
      · have z' : e' = .gl v := z
        rw [z'] at r; cases r
      · exact .inr ⟨⟨ov, a, by rw [e]; trivial⟩, fun _ => c r⟩
  · rcases h p hp with m | ⟨e, _⟩
    · rcases h q hq with m' | ⟨e', _⟩
      · exact x.own p m q m' a ns b ms e1 e2
      · rw [e'] at e2; cases e2
    · rw [e] at e1; cases e1

/-- the slot of a name is written: what stays -/
theorem EntOk.extBut {hE : Heap} {W : List Addr} {h h' : Heap} {ov : Option Value} {e : Ent} {a : Addr} (x : EntOk hE W h ov e) (k : Heap.ExtBut a h h') (nd : NoData h a) : EntOk hE W h' ov e := by
  cases e with
  | un => trivial
  | val _ d => obtain ⟨v, e, r⟩ := x; exact ⟨v, e, r.extBut k (.inr nd)⟩
  | tmp _ d =>
    obtain ⟨v, e, r, ex⟩ := x
    refine ⟨v, e, ?_, ex⟩
    cases d with
    | list ds =>
      obtain ⟨b, vs, rfl, hl, hr⟩ := r
      refine ⟨b, vs, rfl, hl.extBut k fun z => ?_, hr.extBut k (.inr nd)⟩
      subst z
      obtain ⟨o, ho, _, n, hd⟩ := hl.isList
      exact nd o ho (.inl ⟨_, _, hd⟩)
    | _ => exact Rep.extBut r k (.inr nd)
  | own b ns =>
    obtain ⟨e, w, f, vs, hl, r⟩ := x
    refine ⟨e, w, f, vs, hl.extBut k fun z => ?_, r.extBut k (.inr nd)⟩
    subst z
    obtain ⟨o, ho, _, n, hd⟩ := hl.isList
    exact nd o ho (.inl ⟨_, _, hd⟩)
  | gl v => cases x

theorem NoData.ns {h : Heap} {a : Addr} {m : Str → Option Value} (n : h.Ns a m) : NoData h a := by
  obtain ⟨o, es, ep, ho, hd, _⟩ := n
  intro o' ho' z
  rw [ho] at ho'; cases ho'
  rcases z with ⟨xs, n, z⟩ | z <;> rw [hd] at z <;> cases z
theorem NoData.cell {h : Heap} {a : Addr} {v : Option Value} (n : h.IsCell a v) : NoData h a := by
  obtain ⟨o, ho, hd⟩ := n
  intro o' ho' z
  rw [ho] at ho'; cases ho'
  rcases z with ⟨xs, n, z⟩ | z <;> rw [hd] at z <;> cases z
theorem NoData.fields {h : Heap} {a : Addr} {o : Obj} {vs : Array Value} (ho : h.get? a = some o) (hd : o.data = .fields vs) : NoData h a := by
  intro o' ho' z
  rw [ho] at ho'; cases ho'
  rcases z with ⟨xs, n, z⟩ | z <;> rw [hd] at z <;> cases z
theorem Prot.extBut {P : List Pr} {W : List Addr} {h h' : Heap} {a : Addr} (x : Prot P W h) (k : Heap.ExtBut a h h') (n : ∀ o, h.get? a = some o → ¬ Fixed o) (nd : NoData h a) : Prot P W h' := fun p hp => by
    have y := x p hp
    cases p with
    | obj b o => exact ⟨k _ _ (fun z => n o (z ▸ y.1) y.2.2) y.1, y.2⟩
    | reps vs ds => exact Reps.extBut y k (.inr nd)
theorem Prot.extButW {P : List Pr} {W : List Addr} {h h' : Heap} {a : Addr} (x : Prot P W h) (k : Heap.ExtBut a h h') (n : a ∈ W) : Prot P W h' := fun p hp => by
    have y := x p hp
    cases p with
    | obj b o => exact ⟨k _ _ (fun z => y.2.1 (z ▸ n)) y.1, y.2⟩
    | reps vs ds => exact Reps.extBut y k (.inl n)
theorem notFixed_ns {h : Heap} {a : Addr} {m : Str → Option Value} (n : h.Ns a m) : ∀ o, h.get? a = some o → ¬ Fixed o := by
  obtain ⟨o, es, ep, ho, hd, _⟩ := n
  intro o' ho' z
  rw [ho] at ho'; cases ho'
  rcases z with ⟨xs, z⟩ | ⟨xs, n, z⟩ <;> rw [hd] at z <;> cases z
theorem notFixed_cell {h : Heap} {a : Addr} {v : Option Value} (n : h.IsCell a v) : ∀ o, h.get? a = some o → ¬ Fixed o := by
  obtain ⟨o, ho, hd⟩ := n
  intro o' ho' z
  rw [ho] at ho'; cases ho'
  rcases z with ⟨xs, z⟩ | ⟨xs, n, z⟩ <;> rw [hd] at z <;> cases z
theorem ns_ne_cell {h : Heap} {a c : Addr} {m : Str → Option Value} {v : Option Value} (n : h.Ns a m) (k : h.IsCell c v) : a ≠ c := by
  intro e; subst e
  obtain ⟨o, es, ep, ho, hd, _⟩ := n
  obtain ⟨o', ho', hd'⟩ := k
  rw [ho] at ho'; cases ho'
  rw [hd] at hd'; cases hd'

theorem ns_unique {h : Heap} {a : Addr} {m m' : Str → Option Value} (n : h.Ns a m) (n' : h.Ns a m') : m = m' := by
  obtain ⟨o, es, ep, ho, hd, _, hm⟩ := n
  obtain ⟨o', es', ep', ho', hd', _, hm'⟩ := n'
  rw [ho] at ho'; cases ho'
  rw [hd] at hd'; cases hd'
  funext x
  rw [← hm, ← hm']

/-- the address of a name's slot -/
theorem store1 {X : Cx} {A : Around} {s : Shared} {x : Str} {v : Value} {ov : Option Value} (F : Fine X) (h : Holds1 s.heap X.env x ov) (fr : Fresh1 X.T X.sE.heap X.env x) {Q : Unit → Shared → Prop}
    (q : ∀ a h' tk, ((X.env.kindOf x = some .local ∧ a = X.env.locals) ∨ ∃ ov, s.heap.IsCell a ov) → (X.sE.heap.get? a = Option.none ∨ a ∈ X.T) → Heap.SameBut a s.heap h' → NoData s.heap a → (∀ o, s.heap.get? a = some o → ¬ Fixed o) → (∃ o, h'.get? a = some o) → Holds1 h' X.env x (some v) →
      (∀ y ov', y ≠ x → Holds1 s.heap X.env y ov' → Holds1 h' X.env y ov') → Q () { s with heap := h', toks := tk }) :
    wpAny X.M A (storeName X.env x v) Q NoE s := by
  rcases h with ⟨a, m, n, e⟩ | ⟨a | a, c, e, n⟩
  · refine wpAny_storeName_local a n (fun h' n' hs => ?_) (by rw [F.kind]; rfl)
    refine q X.env.locals h' _ (.inl ⟨a, rfl⟩) (fr.1 a) hs (.ns n) (notFixed_ns n) (let ⟨o, _, _, ho, _⟩ := n'; ⟨o, ho⟩) (.inl ⟨a, _, n', by simp⟩) fun y ov' hy hh => ?_
    rcases hh with ⟨b, m', n'', e'⟩ | ⟨b, c, e', n''⟩
    · refine .inl ⟨b, _, n', ?_⟩
      rw [ns_unique n n'', ← e']
      simp [hy]
    · exact .inr ⟨b, c, e', n''.sameBut hs (ns_ne_cell n n'').symm⟩
  · refine wpAny_storeName_cell F.kind a e n fun h' n' hs => ?_
    have tk : ({ s with heap := h' } : Shared) = { s with heap := h', toks := s.toks } := rfl
    rw [tk]
    refine q c h' _ (.inr ⟨_, n⟩) (fr.2.2 c a e) hs (.cell n) (notFixed_cell n) (let ⟨o, ho, _⟩ := n'; ⟨o, ho⟩) (.inr ⟨.inl a, c, e, n'⟩) fun y ov' hy hh => ?_
    rcases hh with ⟨b, m', n'', e'⟩ | ⟨b, c', e', n''⟩
    · exact .inl ⟨b, m', n''.sameBut hs (ns_ne_cell n'' n), e'⟩
    · exact .inr ⟨b, c', e', n''.sameBut hs fun z => hy (F.cells _ _ c (z ▸ e') e)⟩
  · exact absurd a fr.2.1

/-- only a slot was written -/
noncomputable def Moved (h h' : Heap) : Prop := ∃ a, Heap.ExtBut a h h' ∧ NoData h a
theorem Rep.moved {W : List Addr} {h h' : Heap} {v : Value} {d : D} (x : Rep W h v d) (m : Moved h h') : Rep W h' v d := let ⟨a, k, n⟩ := m; x.extBut k (.inr n)
theorem RepT.moved {W : List Addr} {h h' : Heap} {v : Value} {d : D} (x : RepT W h v d) (m : Moved h h') : RepT W h' v d := by
  obtain ⟨a, k, nd⟩ := m
  cases d with
  | list ds =>
    obtain ⟨b, vs, rfl, hl, hr⟩ := x
    refine ⟨b, vs, rfl, hl.extBut k fun z => ?_, hr.extBut k (.inr nd)⟩
    subst z
    obtain ⟨o, ho, _, n, hd⟩ := hl.isList
    exact nd o ho (.inl ⟨_, _, hd⟩)
  | _ => exact Rep.extBut x k (.inr nd)

/-- data stay -/
noncomputable def Mv (h h' : Heap) : Prop := ∀ W v d, RepT W h v d → RepT W h' v d
theorem Mv.refl (h : Heap) : Mv h h := fun _ _ _ x => x
theorem Mv.trans {h h' h'' : Heap} (x : Mv h h') (y : Mv h' h'') : Mv h h'' := fun W v d r => y W v d (x W v d r)
theorem Moved.mv {h h' : Heap} (m : Moved h h') : Mv h h' := fun W v d r => r.moved m
theorem Ext.mv {h h' : Heap} (m : Ext [] h h') : Mv h h' := fun W v d r => r.ext m

theorem store_ok2 {X : Cx} {A : Around} {W : List Addr} {P : List Pr} {ρ ρ' : List (Str × Ent)} {s : Shared} {x : Str} {v : Value} {e : Ent} (F : Fine X) (hs : OkP X W P ρ s) (hp : Put ρ x e ρ')
    (he : EntOk X.sE.heap W s.heap (some v) e) (hown : ∀ a ns, e = .own a ns → ∀ q ∈ ρ, ∀ b ms, q.2 = .own b ms → b ≠ a) {Q : Unit → Shared → Prop}
    (q : ∀ s', OkP X W P ρ' s' → Moved s.heap s'.heap → (∀ C m, s.heap.Ns C m → (X.env.kindOf x = some .local → C ≠ X.env.locals) → s'.heap.Ns C m) → Q () s') : wpAny X.M A (storeName X.env x v) Q NoE s := by
  obtain ⟨e₀, m, r⟩ := hp.mem
  obtain ⟨v', z, _⟩ | ⟨⟨ov, h1, _⟩, fr⟩ := hs.ok.ent _ m
  · have z' : e₀ = .gl v' := z
    rw [z'] at r; cases r
  refine store1 F h1 (fr r) fun a h' tk hsl hfr hsb nd nf hth hx hoth => q _ ?_ ⟨a, hsb.extBut, nd⟩ (fun C m n hC => n.sameBut hsb (by
    rcases hsl with ⟨z', z⟩ | ⟨ov, z⟩
    · rw [z]; exact hC z'
    · exact ns_ne_cell n z))
  refine ⟨⟨⟨hs.ok.ext.ext.slot hfr hsb.extBut hth, hs.ok.ext.gens, hs.ok.ext.os⟩, by rw [hp.keys]; exact hs.ok.nd, fun p hp' => ?_, fun p hp' p₂ hp₂ a₁ ns b ms e1 e2 hne => ?_, fun b hb => ?_⟩, ?_⟩
  · rcases hp.cases hs.ok.nd p hp' with rfl | ⟨m', hne⟩
    · exact .inr ⟨⟨some v, hx, he.extBut hsb.extBut nd⟩, fun _ => fr r⟩
    · obtain z | ⟨⟨ov', h2, h3⟩, fr'⟩ := hs.ok.ent _ m'
      · exact .inl z
      · exact .inr ⟨⟨ov', hoth _ _ hne h2, h3.extBut hsb.extBut nd⟩, fr'⟩
  · rcases hp.cases hs.ok.nd p hp' with rfl | ⟨m', hne'⟩
    · rcases hp.cases hs.ok.nd p₂ hp₂ with rfl | ⟨m₂, _⟩
      · exact absurd rfl hne
      · exact (hown a₁ ns e1 p₂ m₂ b ms e2).symm
    · rcases hp.cases hs.ok.nd p₂ hp₂ with rfl | ⟨m₂, _⟩
      · exact hown b ms e2 p m' a₁ ns e1
      · exact hs.ok.own p m' p₂ m₂ a₁ ns b ms e1 e2 hne
  · obtain ⟨o, ho⟩ := hs.ok.wal b hb
    by_cases hba : b = a
    · subst hba; exact hth
    · exact ⟨o, hsb.extBut b o hba ho⟩
  · exact hs.prot.extBut hsb.extBut nf nd

theorem store_ok {X : Cx} {A : Around} {W : List Addr} {P : List Pr} {ρ ρ' : List (Str × Ent)} {s : Shared} {x : Str} {v : Value} {e : Ent} (F : Fine X) (hs : OkP X W P ρ s) (hp : Put ρ x e ρ')
    (he : EntOk X.sE.heap W s.heap (some v) e) (hown : ∀ a ns, e = .own a ns → ∀ q ∈ ρ, ∀ b ms, q.2 = .own b ms → b ≠ a) {Q : Unit → Shared → Prop}
    (q : ∀ s', OkP X W P ρ' s' → Moved s.heap s'.heap → Q () s') : wpAny X.M A (storeName X.env x v) Q NoE s := store_ok2 F hs hp he hown fun s' a b _ => q s' a b
theorem store_val {X : Cx} {A : Around} {W : List Addr} {P : List Pr} {ρ ρ' : List (Str × Ent)} {s : Shared} {x : Str} {v : Value} {d : D} (F : Fine X) (hs : OkP X W P ρ s) (hp : Put ρ x (.val true d) ρ')
    (he : Rep W s.heap v d) {Q : Unit → Shared → Prop} (q : ∀ s', OkP X W P ρ' s' → Moved s.heap s'.heap → Q () s') : wpAny X.M A (storeName X.env x v) Q NoE s :=
  store_ok F hs hp ⟨v, rfl, he⟩ (fun _ _ e => by cases e) q
theorem store_tmp {X : Cx} {A : Around} {W : List Addr} {P : List Pr} {ρ ρ' : List (Str × Ent)} {s : Shared} {x : Str} {v : Value} {d : D} (F : Fine X) (hs : OkP X W P ρ s) (hp : Put ρ x (.tmp true d) ρ')
    (he : RepT W s.heap v d) (ex : ∀ b, v = .ref b → ∃ o, X.sE.heap.get? b = some o) {Q : Unit → Shared → Prop} (q : ∀ s', OkP X W P ρ' s' → Moved s.heap s'.heap → Q () s') : wpAny X.M A (storeName X.env x v) Q NoE s :=
  store_ok F hs hp ⟨v, rfl, he, ex⟩ (fun _ _ e => by cases e) q
end Mine



namespace Mine
open PySem PyProof.Rows

theorem cellsFrom_app : ∀ (names : List (Str × NameKind)) (n : Nat) (acc : List (Str × Addr)), cellsFrom n names acc = cellsFrom n names [] ++ acc
  | [], _, _ => rfl
  | (x, k) :: r, n, acc => by
    unfold cellsFrom
    split
    · rw [cellsFrom_app r (n + 1) ((x, n) :: acc), cellsFrom_app r (n + 1) [(x, n)]]; simp
    · exact cellsFrom_app r n acc
theorem cellsFrom_keys : ∀ (names : List (Str × NameKind)) (n : Nat) (x : Str) (c : Addr), (x, c) ∈ cellsFrom n names [] → (x, NameKind.cell) ∈ names ∧ n ≤ c
  | [], _, _, _, h => by cases h
  | (y, k) :: r, n, x, c, h => by
    unfold cellsFrom at h
    split at h
    · rename_i hk
      rw [cellsFrom_app, List.mem_append] at h
      rcases h with h | h
      · have := cellsFrom_keys r (n + 1) x c h
        exact ⟨.tail _ this.1, by omega⟩
      · simp at h
        obtain ⟨rfl, rfl⟩ := h
        have : k = .cell := by simpa using hk
        subst this
        exact ⟨.head _, Nat.le_refl _⟩
    · have := cellsFrom_keys r n x c h
      exact ⟨.tail _ this.1, this.2⟩
theorem cellsFrom_has : ∀ (names : List (Str × NameKind)) (n : Nat) (x : Str), (x, NameKind.cell) ∈ names → ∃ c, (x, c) ∈ cellsFrom n names []
  | [], _, _, h => by cases h
  | (y, k) :: r, n, x, h => by
    unfold cellsFrom
    rcases List.mem_cons.mp h with e | h
    · cases e
      simp only [beq_self_eq_true, if_true]
      rw [cellsFrom_app]
      exact ⟨n, List.mem_append.mpr (.inr (.head _))⟩
    · split
      · obtain ⟨c, hc⟩ := cellsFrom_has r (n + 1) x h
        rw [cellsFrom_app]
        exact ⟨c, List.mem_append.mpr (.inl hc)⟩
      · exact cellsFrom_has r n x h
theorem lookup_of_mem {α : Type} : ∀ {l : List (Str × α)} {x : Str} {c : α}, (x, c) ∈ l → ∃ c', l.lookup x = some c'
  | (y, d) :: l, x, c, h => by
    rw [List.lookup_cons]
    cases e : x == y with
    | true => exact ⟨d, rfl⟩
    | false =>
      rcases List.mem_cons.mp h with z | h
      · cases z; simp at e
      · exact lookup_of_mem h
theorem lookup_none {α : Type} : ∀ {l : List (Str × α)} {x : Str}, (∀ c, (x, c) ∉ l) → l.lookup x = Option.none
  | [], _, _ => rfl
  | (y, d) :: l, x, h => by
    rw [List.lookup_cons]
    cases e : x == y with
    | true =>
      have : x = y := by simpa using e
      subst this
      exact absurd (.head _) (h d)
    | false => exact lookup_none fun c hc => h c (.tail _ hc)
theorem nodup_lookup {α : Type} : ∀ {l : List (Str × α)} {x : Str} {c : α}, (l.map (·.1)).Nodup → (x, c) ∈ l → l.lookup x = some c
  | (y, d) :: l, x, c, nd, h => by
    rw [List.map_cons, List.nodup_cons] at nd
    rw [List.lookup_cons]
    rcases List.mem_cons.mp h with z | h
    · cases z; simp
    · have : x ≠ y := fun e => nd.1 (by have := List.mem_map_of_mem (f := (·.1)) h; rw [e] at this; exact this)
      have e : (x == y) = false := by simpa using this
      rw [e]
      exact nodup_lookup nd.2 h
theorem nodup_unique {α : Type} {l : List (Str × α)} {x : Str} {c c' : α} (nd : (l.map (·.1)).Nodup) (h : (x, c) ∈ l) (h' : (x, c') ∈ l) : c = c' := by
  have a := nodup_lookup nd h
  rw [nodup_lookup nd h'] at a
  cases a; rfl

/-- the heap behind a new frame -/
structure Laid1 (h : Heap) (names : List (Str × NameKind)) (closure : List (Str × Addr)) (h' : Heap) (L : Addr) (cells : List (Str × Addr)) : Prop where
  keep : ∀ b o, h.get? b = some o → h'.get? b = some o
  fresh : h.get? L = Option.none
  ns : h'.Ns L fun _ => Option.none
  cell : ∀ x, (x, NameKind.cell) ∈ names → ∃ c, cells.lookup x = some c ∧ h'.IsCell c Option.none ∧ h.get? c = Option.none
  free : ∀ x, (x, NameKind.free) ∈ names → cells.lookup x = closure.lookup x
  inj : ∀ x y c, cells.lookup x = some c → cells.lookup y = some c → x = y

theorem laid1 {h : Heap} {names : List (Str × NameKind)} {closure : List (Str × Addr)} (nd : (names.map (·.1)).Nodup) (cls : Value)
    (hin : ∀ x y c, closure.lookup x = some c → closure.lookup y = some c → x = y) (hal : ∀ x c, closure.lookup x = some c → ∃ o, h.get? c = some o) :
    Laid1 h names closure (pushCells (h.push { cls := cls, data := .dict #[] }) names) h.objs.size (cellsFrom (h.objs.size + 1) names closure) := by
  have ok := cellsFrom_ok names (h.push { cls := cls, data := .dict #[] }) (h.objs.size + 1) [] ⟨fun _ _ hm => (nomatch hm), List.Pairwise.nil⟩ (by rw [Heap.size_push]; exact Nat.le_refl _)
  rw [Heap.size_push] at ok
  have app := cellsFrom_app names (h.objs.size + 1) closure
  refine ⟨fun b o e => pushCells_keeps _ _ b o (Heap.get?_push_of_some _ e), get_size _, (Heap.Ns.new h cls).keeps (pushCells_keeps _ _), fun x hx => ?_, fun x hx => ?_, fun x y c hx hy => ?_⟩
  · obtain ⟨c, hc⟩ := cellsFrom_has names (h.objs.size + 1) x hx
    obtain ⟨c', hl⟩ := lookup_of_mem hc
    have hm := mem_of_lookup hl
    refine ⟨c', by rw [app, List.lookup_append, hl]; rfl, (ok.empty x c' hm).1, ?_⟩
    have := (ok.empty x c' hm).2
    cases q : h.get? c' with
    | none => rfl
    | some o => exact absurd (Nat.lt_of_lt_of_le (Heap.lt_size q) (Nat.le_of_succ_le this)) (Nat.lt_irrefl _)
  · rw [app, List.lookup_append, lookup_none fun c hc => ?_]
    · rfl
    · have := (cellsFrom_keys _ _ _ _ hc).1
      have := nodup_unique nd hx this
      cases this
  · rw [app, List.lookup_append] at hx hy
    have low : ∀ z c, closure.lookup z = some c → c < h.objs.size := fun z c e => by obtain ⟨o, ho⟩ := hal z c e; exact Heap.lt_size ho
    have hi : ∀ z c, (cellsFrom (h.objs.size + 1) names []).lookup z = some c → h.objs.size < c := fun z c e => (ok.empty z c (mem_of_lookup e)).2
    cases ex : (cellsFrom (h.objs.size + 1) names []).lookup x with
    | some c₁ =>
      rw [ex] at hx; cases hx
      cases ey : (cellsFrom (h.objs.size + 1) names []).lookup y with
      | some c₂ =>
        rw [ey] at hy; cases hy
        exact name_of_addr ok.apart (mem_of_lookup ex) (mem_of_lookup ey)
      | none =>
        rw [ey] at hy
        have a := low y c hy
        have b := hi x c ex
        exact absurd (Nat.lt_trans a b) (Nat.lt_irrefl _)
    | none =>
      rw [ex] at hx
      cases ey : (cellsFrom (h.objs.size + 1) names []).lookup y with
      | some c₂ =>
        rw [ey] at hy; cases hy
        have a := low x c hx
        have b := hi y c ey
        exact absurd (Nat.lt_trans a b) (Nat.lt_irrefl _)
      | none =>
        rw [ey] at hy
        exact hin x y c hx hy

/-- which entries a new frame has -/
inductive LayOf (B : Base) (ρp : List (Str × Ent)) : List (Str × NameKind) → List (Str × Ent) → Prop
  | nil : LayOf B ρp [] []
  | loc {x : Str} {ns : List (Str × NameKind)} {ρ : List (Str × Ent)} : LayOf B ρp ns ρ → LayOf B ρp ((x, .local) :: ns) ((x, .un) :: ρ)
  | cell {x : Str} {ns : List (Str × NameKind)} {ρ : List (Str × Ent)} : LayOf B ρp ns ρ → LayOf B ρp ((x, .cell) :: ns) ((x, .un) :: ρ)
  | free {x : Str} {e : Ent} {ns : List (Str × NameKind)} {ρ : List (Str × Ent)} : (x, e) ∈ ρp → e.known = true → LayOf B ρp ns ρ → LayOf B ρp ((x, .free) :: ns) ((x, e.ro) :: ρ)
  | glob {x : Str} {v : Value} {ns : List (Str × NameKind)} {ρ : List (Str × Ent)} : GlobIs B x v → LayOf B ρp ns ρ → LayOf B ρp ((x, .globalImplicit) :: ns) ((x, .gl v) :: ρ)
theorem LayOf.keys {B : Base} {ρp : List (Str × Ent)} {ns : List (Str × NameKind)} {ρ : List (Str × Ent)} (h : LayOf B ρp ns ρ) : (ρ.map (·.1)).Sublist (ns.map (·.1)) := by
  induction h with
  | nil => exact .slnil
  | loc _ ih => exact .cons_cons _ ih
  | cell _ ih => exact .cons_cons _ ih
  | free _ _ _ ih => exact .cons_cons _ ih
  | glob _ _ ih => exact .cons_cons _ ih
theorem LayOf.cases {B : Base} {ρp : List (Str × Ent)} {ns : List (Str × NameKind)} {ρ : List (Str × Ent)} (h : LayOf B ρp ns ρ) : ∀ p ∈ ρ, (p.2 = .un ∧ ((p.1, NameKind.local) ∈ ns ∨ (p.1, NameKind.cell) ∈ ns)) ∨ ((p.1, NameKind.free) ∈ ns ∧ ∃ e, (p.1, e) ∈ ρp ∧ e.known = true ∧ p.2 = e.ro) ∨ ((p.1, NameKind.globalImplicit) ∈ ns ∧ ∃ v, p.2 = .gl v ∧ GlobIs B p.1 v) := by
  induction h with
  | nil => intro p hp; cases hp
  | loc _ ih =>
    intro p hp
    rcases List.mem_cons.mp hp with rfl | hp
    · exact .inl ⟨rfl, .inl (.head _)⟩
    · rcases ih p hp with ⟨a, b | b⟩ | ⟨a, b⟩ | ⟨a, b⟩
      · exact .inl ⟨a, .inl (.tail _ b)⟩
      · exact .inl ⟨a, .inr (.tail _ b)⟩
      · exact .inr (.inl ⟨.tail _ a, b⟩)
      · exact .inr (.inr ⟨.tail _ a, b⟩)
  | cell _ ih =>
    intro p hp
    rcases List.mem_cons.mp hp with rfl | hp
    · exact .inl ⟨rfl, .inr (.head _)⟩
    · rcases ih p hp with ⟨a, b | b⟩ | ⟨a, b⟩ | ⟨a, b⟩
      · exact .inl ⟨a, .inl (.tail _ b)⟩
      · exact .inl ⟨a, .inr (.tail _ b)⟩
      · exact .inr (.inl ⟨.tail _ a, b⟩)
      · exact .inr (.inr ⟨.tail _ a, b⟩)
  | free hm hkn _ ih =>
    intro p hp
    rcases List.mem_cons.mp hp with rfl | hp
    · exact .inr (.inl ⟨.head _, _, hm, hkn, rfl⟩)
    · rcases ih p hp with ⟨a, b | b⟩ | ⟨a, b⟩ | ⟨a, b⟩
      · exact .inl ⟨a, .inl (.tail _ b)⟩
      · exact .inl ⟨a, .inr (.tail _ b)⟩
      · exact .inr (.inl ⟨.tail _ a, b⟩)
      · exact .inr (.inr ⟨.tail _ a, b⟩)
  | glob hg _ ih =>
    intro p hp
    rcases List.mem_cons.mp hp with rfl | hp
    · exact .inr (.inr ⟨.head _, _, rfl, hg⟩)
    · rcases ih p hp with ⟨a, b | b⟩ | ⟨a, b⟩ | ⟨a, b⟩
      · exact .inl ⟨a, .inl (.tail _ b)⟩
      · exact .inl ⟨a, .inr (.tail _ b)⟩
      · exact .inr (.inl ⟨.tail _ a, b⟩)
      · exact .inr (.inr ⟨.tail _ a, b⟩)

theorem LayOf.loc_mem {B : Base} {ρp : List (Str × Ent)} {ns : List (Str × NameKind)} {ρ : List (Str × Ent)} (h : LayOf B ρp ns ρ) : ∀ x, (x, NameKind.local) ∈ ns → (x, Ent.un) ∈ ρ := by
  induction h with
  | nil => intro x hx; cases hx
  | loc _ ih =>
    intro x hx
    rcases List.mem_cons.mp hx with e | hx
    · cases e; exact .head _
    · exact .tail _ (ih x hx)
  | cell _ ih =>
    intro x hx
    rcases List.mem_cons.mp hx with e | hx
    · cases e
    · exact .tail _ (ih x hx)
  | free _ _ _ ih =>
    intro x hx
    rcases List.mem_cons.mp hx with e | hx
    · cases e
    · exact .tail _ (ih x hx)
  | glob _ _ ih =>
    intro x hx
    rcases List.mem_cons.mp hx with e | hx
    · cases e
    · exact .tail _ (ih x hx)
theorem LayOf.free_mem {B : Base} {ρp : List (Str × Ent)} {ns : List (Str × NameKind)} {ρ : List (Str × Ent)} (h : LayOf B ρp ns ρ) : ∀ x, (x, NameKind.free) ∈ ns → ∃ e, (x, e) ∈ ρp ∧ e.known = true := by
  induction h with
  | nil => intro x hx; cases hx
  | loc _ ih =>
    intro x hx
    rcases List.mem_cons.mp hx with e | hx
    · cases e
    · exact ih x hx
  | cell _ ih =>
    intro x hx
    rcases List.mem_cons.mp hx with e | hx
    · cases e
    · exact ih x hx
  | free hm hk _ ih =>
    intro x hx
    rcases List.mem_cons.mp hx with e | hx
    · cases e; exact ⟨_, hm, hk⟩
    · exact ih x hx
  | glob _ _ ih =>
    intro x hx
    rcases List.mem_cons.mp hx with e | hx
    · cases e
    · exact ih x hx
/-- names whose cells a block within may take -/
noncomputable def closable (ns : List (Str × NameKind)) : List Str := ns.filterMap fun p => match p.2 with | .cell => some p.1 | .free => some p.1 | _ => Option.none
theorem closable_mem {ns : List (Str × NameKind)} {x : Str} (h : x ∈ closable ns) : (x, NameKind.cell) ∈ ns ∨ (x, NameKind.free) ∈ ns := by
  unfold closable at h
  rw [List.mem_filterMap] at h
  obtain ⟨⟨y, k⟩, hm, e⟩ := h
  cases k <;> simp at e
  · subst e; exact .inl hm
  · subst e; exact .inr hm
theorem Ent.ro_rw (e : Ent) : e.ro.rw = false := by cases e <;> rfl
theorem Ent.ro_own (e : Ent) (a : Addr) (ns : List Int) : e.ro ≠ .own a ns := by cases e <;> intro h <;> cases h

/-- a new frame is in order -/
theorem ok_new {X : Cx} {W : List Addr} {P : List Pr} {names : List (Str × NameKind)} {closure : List (Str × Addr)} {ρp ρ : List (Str × Ent)} {s₃ : Shared} {h' : Heap} {tk : Nat} {L : Addr} {cells : List (Str × Addr)}
    (k : SExt [] X.sE s₃) (nd : (names.map (·.1)).Nodup) (la : Laid1 s₃.heap names closure h' L cells) (lo : LayOf X.B ρp names ρ) (hL : X.env.locals = L) (hC : X.env.cells = cells)
    (kl : ∀ x, (x, NameKind.local) ∈ names → X.env.kindOf x = some .local) (kc : ∀ x, (x, NameKind.cell) ∈ names → X.env.kindOf x = some .cell)
    (kg : ∀ x, (x, NameKind.globalImplicit) ∈ names → X.env.kindOf x = some .globalImplicit)
    (kf : ∀ x, (x, NameKind.free) ∈ names → X.env.kindOf x = some .cell ∨ X.env.kindOf x = some .free)
    (fr : ∀ x e, (x, e) ∈ ρp → e.known = true → (x, NameKind.free) ∈ names → ∃ c v, closure.lookup x = some c ∧ s₃.heap.IsCell c (some v) ∧ EntOk X.sE.heap W s₃.heap (some v) e.ro)
    (wal : ∀ a ∈ W, ∃ o, s₃.heap.get? a = some o) (pr : Prot P W s₃.heap) : OkP X W P ρ { s₃ with heap := h', toks := tk } := by
  refine ⟨⟨⟨k.ext.wider.trans (.of_keep la.keep), k.gens, k.os⟩, nd.sublist lo.keys, fun p hp => ?_, fun p hp q hq a ns b ms e1 e2 => ?_, fun a ha => let ⟨o, e⟩ := wal a ha; ⟨o, la.keep a o e⟩⟩, pr.keep la.keep⟩
  · rcases lo.cases p hp with ⟨hu, hk | hk⟩ | ⟨hk, e, hm, hkn, he⟩ | ⟨hk, v, hv, hg⟩
    · refine .inr ⟨⟨Option.none, .inl ⟨kl _ hk, _, hL ▸ la.ns, rfl⟩, by rw [hu]; trivial⟩, fun _ => ⟨fun _ => .inl (hL ▸ k.ext.fresh la.fresh), (fun z => by rw [kl _ hk] at z; cases z), (fun c z => by rw [kl _ hk] at z; cases z)⟩⟩
    · obtain ⟨c, h1, h2, h3⟩ := la.cell _ hk
      refine .inr ⟨⟨Option.none, .inr ⟨.inl (kc _ hk), c, hC ▸ h1, h2⟩, by rw [hu]; trivial⟩, fun _ => ⟨(fun z => by rw [kc _ hk] at z; cases z), (fun z => by rw [kc _ hk] at z; cases z), fun c' z z' => ?_⟩⟩
      rw [hC, h1] at z'; cases z'; exact .inl (k.ext.fresh h3)
    · obtain ⟨c, v, h1, h2, h3⟩ := fr _ _ hm hkn hk
      refine .inr ⟨⟨some v, .inr ⟨kf _ hk, c, by rw [hC, la.free _ hk]; exact h1, h2.keeps la.keep⟩, by rw [he]; exact h3.keep la.keep⟩, fun z => ?_⟩
      rw [he, Ent.ro_rw] at z; cases z
    · exact .inl ⟨v, hv, kg _ hk, hg⟩
  · rcases lo.cases p hp with ⟨hu, _⟩ | ⟨_, e, _, _, he⟩ | ⟨_, v, hv, _⟩
    · rw [hu] at e1; cases e1
    · rw [he] at e1; exact absurd e1 (Ent.ro_own _ _ _)
    · rw [hv] at e1; cases e1

/-- the parameters, one by one -/
inductive PutAll : List (Str × Ent) → List (Str × Value) → List (Bool × D) → List (Str × Ent) → Prop
  | nil {ρ : List (Str × Ent)} : PutAll ρ [] [] ρ
  | val {ρ ρ' ρ'' : List (Str × Ent)} {x : Str} {v : Value} {d : D} {bs : List (Str × Value)} {ds : List (Bool × D)} : Put ρ x (.val true d) ρ' → PutAll ρ' bs ds ρ'' → PutAll ρ ((x, v) :: bs) ((true, d) :: ds) ρ''
  | tmp {ρ ρ' ρ'' : List (Str × Ent)} {x : Str} {v : Value} {d : D} {bs : List (Str × Value)} {ds : List (Bool × D)} : Put ρ x (.tmp true d) ρ' → PutAll ρ' bs ds ρ'' → PutAll ρ ((x, v) :: bs) ((false, d) :: ds) ρ''
/-- handed values: true: to keep -/
inductive Hand (hE : Heap) (W : List Addr) (h : Heap) : List Value → List (Bool × D) → Prop
  | nil : Hand hE W h [] []
  | val {v : Value} {d : D} {vs : List Value} {ds : List (Bool × D)} : Rep W h v d → Hand hE W h vs ds → Hand hE W h (v :: vs) ((true, d) :: ds)
  | tmp {v : Value} {d : D} {vs : List Value} {ds : List (Bool × D)} : RepT W h v d → (∀ b, v = .ref b → ∃ o, hE.get? b = some o) → Hand hE W h vs ds → Hand hE W h (v :: vs) ((false, d) :: ds)
theorem Hand.keep {hE : Heap} {W : List Addr} {h h' : Heap} {vs : List Value} {ds : List (Bool × D)} (x : Hand hE W h vs ds) (k : ∀ b o, h.get? b = some o → h'.get? b = some o) : Hand hE W h' vs ds := by
  induction x with
  | nil => exact .nil
  | val r _ ih => exact .val (r.keep k) ih
  | tmp r e _ ih => exact .tmp (r.keep k) e ih
end Mine



namespace Mine
open PySem PyProof.Rows

theorem zip_lookup_some : ∀ (ns : List Str) (vs : List Value), vs.length = ns.length → ∀ n ∈ ns, ((ns.zip vs).lookup n).isNone = false
  | [], _, _, n, h => by cases h
  | x :: ns, [], hl, n, h => by simp at hl
  | x :: ns, v :: vs, hl, n, h => by
    rw [List.zip_cons_cons, List.lookup_cons]
    cases e : n == x with
    | true => rfl
    | false =>
      rcases List.mem_cons.mp h with rfl | h
      · simp at e
      · exact zip_lookup_some ns vs (by simpa using hl) n h
theorem zip_filterMap : ∀ (ns : List Str) (vs : List Value), vs.length = ns.length → ns.Nodup → ns.filterMap (fun n => ((ns.zip vs).lookup n).map (n, ·)) = ns.zip vs
  | [], _, _, _ => rfl
  | x :: ns, [], hl, _ => by simp at hl
  | x :: ns, v :: vs, hl, nd => by
    rw [List.nodup_cons] at nd
    rw [List.zip_cons_cons, List.filterMap_cons]
    simp only [List.lookup_cons, beq_self_eq_true, Option.map_some]
    congr 1
    have ih := zip_filterMap ns vs (by simpa using hl) nd.2
    have key : ∀ (l : List Str) (f g : Str → Option (Str × Value)), (∀ n ∈ l, f n = g n) → l.filterMap f = l.filterMap g := by
      intro l f g h
      induction l with
      | nil => rfl
      | cons a l ih => rw [List.filterMap_cons, List.filterMap_cons, h a (.head _), ih fun n hn => h n (.tail _ hn)]
    refine Eq.trans (key _ _ _ fun n hn => ?_) ih
    have : (n == x) = false := by
      simp only [beq_eq_false_iff_ne, ne_eq]
      intro e; subst e; exact nd.1 hn
    rw [this]

theorem bind_plain {fd : FuncData} {as : List Arg} {vs : List Value} (hp : fd.params = ⟨[], as, Option.none, [], [], Option.none, []⟩) (hd : fd.defaults = .none) (hl : vs.length = as.length) (nd : (as.map (·.arg)).Nodup) :
    bindArgs fd ⟨vs, []⟩ = pure ((as.map (·.arg)).zip vs) := by
  have hl' : vs.length = (as.map (·.arg)).length := by rw [List.length_map]; exact hl
  have hm : (as.map (·.arg)).filter (fun n => (((as.map (·.arg)).zip vs).lookup n).isNone) = [] := by
    rw [List.filter_eq_nil_iff]
    intro n hn
    rw [zip_lookup_some _ _ hl' n hn]
    exact Bool.false_ne_true
  have h0 : seqItems? Value.none = pure Option.none := rfl
  have hgt : (decide (vs.length > (as.map (·.arg)).length) && true) = false := by
    rw [Bool.and_true]; exact decide_eq_false (by omega)
  have htk : List.take ((as.map (·.arg)).length) (as.map (·.arg)) = as.map (·.arg) := List.take_of_length_le (Nat.le_refl _)
  unfold bindArgs
  rw [hp, hd]
  simp only [h0, List.map_nil, List.nil_append, List.forIn_nil, pure_bind, Option.getD_none, List.length_nil, List.append_nil, Option.isNone_none, hgt, Bool.false_eq_true, if_false, Nat.zero_sub, List.drop_zero, Nat.sub_zero, htk, hm, List.isEmpty_nil, Bool.not_true]
  simp only [List.drop_nil, List.zip_nil_right, List.forIn_nil, pure_bind, List.isEmpty_nil, Bool.not_true, Bool.false_eq_true, if_false]
  rw [zip_filterMap _ _ hl' nd]

/-- a function's object -/
structure FnIn (h : Heap) (a : Addr) (fd : FuncData) : Prop where
  obj : ∃ o, h.get? a = some o ∧ o.data = .func fd
  code : h.CodeRec fd.code fd.qualname
  globals : fd.globals = mainGlobals
  builtins : fd.builtins = builtinsNs
  kind : fd.scope.kind = .function
  co : fd.scope.isCoroutine = false
  gen : fd.scope.isGenerator = false
  nd : (fd.scope.names.map (·.1)).Nodup
theorem FnIn.keep {h h' : Heap} {a : Addr} {fd : FuncData} (x : FnIn h a fd) (k : ∀ b o, h.get? b = some o → h'.get? b = some o) : FnIn h' a fd :=
  { x with obj := (let ⟨o, e, r⟩ := x.obj; ⟨o, k _ _ e, r⟩), code := x.code.keeps k }

structure Room (A : Around) (n : Nat) : Prop where
  hnd : A.handled = Option.none
  dep : A.depth + n < recursionLimit
  uni : A.units + 8 * n + 100 < cLine
theorem Fine.room {X : Cx} (F : Fine X) : Room X.A X.n := ⟨F.hnd, F.dep, F.uni⟩
theorem Room.less {A : Around} {n m : Nat} (h : Room A n) (hm : m ≤ n) : Room A m := ⟨h.hnd, by have := h.dep; omega, by have := h.uni; omega⟩
theorem Room.deeper {A : Around} {n : Nat} (h : Room A (n + 1)) (env : Env) : Room (A.deeper env) n :=
  ⟨h.hnd, by have := h.dep; show A.depth + 1 + n < _; omega, by have := h.uni; show A.units + 3 + 8 * n + 100 < _; omega⟩

/-- the closure's cells -/
structure CloOk (W : List Addr) (h : Heap) (clo : List (Str × Addr)) (ρp : List (Str × Ent)) : Prop where
  inj : ∀ x y c, clo.lookup x = some c → clo.lookup y = some c → x = y
  al : ∀ x c, clo.lookup x = some c → ∃ o, h.get? c = some o
  ent : ∀ x e, (x, e) ∈ ρp → e.known = true → ∃ c v, clo.lookup x = some c ∧ h.IsCell c (some v) ∧ EntOk h W h (some v) e.ro
theorem CloOk.nil {W : List Addr} {h : Heap} : CloOk W h [] [] := ⟨(fun _ _ _ e => by cases e), (fun _ _ e => by cases e), (fun _ _ e => by cases e)⟩

theorem Hand.moved {hE : Heap} {W : List Addr} {h h' : Heap} {vs : List Value} {ds : List (Bool × D)} (x : Hand hE W h vs ds) (m : Moved h h') : Hand hE W h' vs ds := by
  induction x with
  | nil => exact .nil
  | val r _ ih => exact .val (r.moved m) ih
  | tmp r e _ ih => exact .tmp (r.moved m) e ih

theorem puts_ok {X : Cx} {A : Around} {W : List Addr} {P : List Pr} (F : Fine X) (f : Str × Value → PUnit → Sem (ForInStep PUnit)) (hf : ∀ n v u, f (n, v) u = (do storeName X.env n v; pure (.yield ⟨⟩)))
    {ρ ρ' : List (Str × Ent)} {binds : List (Str × Value)} {ds : List (Bool × D)} (s : Shared) (Q : PUnit → Shared → Prop) (pa : PutAll ρ binds ds ρ') (hs : OkP X W P ρ s) (hd : Hand X.sE.heap W s.heap (binds.map (·.2)) ds)
    (q : ∀ s', OkP X W P ρ' s' → Q ⟨⟩ s') : wpAny X.M A (forIn binds ⟨⟩ f) Q NoE s := by
  induction pa generalizing s with
  | nil => rw [List.forIn_nil]; exact wpAny_pure (q s hs)
  | val hp _ ih =>
    rw [List.forIn_cons, hf]
    cases hd with
    | val r hd => exact wpAny_bind (wpAny_bind (store_val F hs hp r fun s' ok m => wpAny_pure (ih s' ok (hd.moved m) q)))
  | tmp hp _ ih =>
    rw [List.forIn_cons, hf]
    cases hd with
    | tmp r ex hd => exact wpAny_bind (wpAny_bind (store_tmp F hs hp r ex fun s' ok m => wpAny_pure (ih s' ok (hd.moved m) q)))

/-- a new frame for a function -/
theorem env_fn {B : Base} {A : Around} {n : Nat} {T : List Addr} {s : Shared} {a : Addr} {fd : FuncData} {binds : List (Str × Value)} {ds : List (Bool × D)} {ρp ρ₀ ρ₁ : List (Str × Ent)} {W : List Addr} {A' : Around} {Q : Env → Shared → Prop}
    (rm : Room A (n + 1)) (tsub : ∀ a ∈ T, a ∈ B.T) (start : Ext B.T B.h₁ s.heap) (fn : FnIn s.heap a fd) (clo : CloOk W s.heap fd.closure ρp) (lo : LayOf B ρp fd.scope.names ρ₀) (pa : PutAll ρ₀ binds ds ρ₁) (hand : Hand s.heap W s.heap (binds.map (·.2)) ds)
    (wal : ∀ a ∈ W, ∃ o, s.heap.get? a = some o)
    (q : ∀ env s', Fine ⟨B, A.deeper env, env, s, n, T, closable fd.scope.names⟩ → OkP ⟨B, A.deeper env, env, s, n, T, closable fd.scope.names⟩ W [] ρ₁ s' → Q env s') :
    wpAny (model B.prog B.w) A' (newFunctionEnv fd.scope fd.globals fd.closure binds (fd.qualname ++ ".<locals>.") (some a) fd.code Option.none fd.builtins) Q NoE s := by
  simp only [newFunctionEnv, Option.isSome_none, Bool.false_eq_true, if_false]
  refine wpAny_bind (wpAny_alloc ?_)
  refine wpAny_bind (wpAny_layCells _ (fun name kind cells => by cases hkc : kind == NameKind.cell <;> simp [hkc]) _ _ _ _ ?_)
  rw [show ({ s with heap := s.heap.push { cls := .type "frame", data := .dict #[] } } : Shared).heap.objs.size = s.heap.objs.size + 1 from Heap.size_push ..]
  have la := laid1 (h := s.heap) (names := fd.scope.names) (closure := fd.closure) fn.nd (.type "frame") clo.inj clo.al
  generalize hcs : cellsFrom (s.heap.objs.size + 1) fd.scope.names fd.closure = cells at la ⊢
  generalize henv : ({ scope := fd.scope, locals := s.heap.objs.size, globals := fd.globals, cells := cells, qual := fd.qualname ++ ".<locals>.", func := some a, code := fd.code, frame := some s.heap.objs.size, builtins := fd.builtins } : Env) = env
  have esc : env.scope = fd.scope := by rw [← henv]
  have elo : env.locals = s.heap.objs.size := by rw [← henv]
  have ece : env.cells = cells := by rw [← henv]
  have kk : ∀ x k, (x, k) ∈ fd.scope.names → env.kindOf x = some k := fun x k h => by unfold Env.kindOf; rw [esc]; exact nodup_lookup fn.nd h
  have F : Fine ⟨B, A.deeper env, env, s, n, T, closable fd.scope.names⟩ := ⟨by rw [esc]; exact fn.kind, by rw [← henv]; exact fn.globals, by rw [← henv]; exact fn.builtins, start, tsub, (fun x hx => by
    rcases closable_mem hx with h | h
    · exact .inl (kk x _ h)
    · exact .inr (kk x _ h)), rm.hnd, (rm.deeper env).dep, (rm.deeper env).uni, fun x y c h1 h2 => la.inj x y c (by rw [← ece]; exact h1) (by rw [← ece]; exact h2)⟩
  have ok : OkP ⟨B, A.deeper env, env, s, n, T, closable fd.scope.names⟩ W [] ρ₀ { s with heap := _, toks := s.toks } :=
    ok_new (X := ⟨B, A.deeper env, env, s, n, T, closable fd.scope.names⟩) (s₃ := s) (SExt.refl _ _) fn.nd la lo elo ece (fun x h => kk x _ h) (fun x h => kk x _ h) (fun x h => kk x _ h) (fun x h => .inr (kk x _ h)) (fun x e hm hk _ => clo.ent x e hm hk) wal fun p hp => (nomatch hp)
  refine wpAny_bind ?_
  exact puts_ok (A := A') F _ (fun _ _ _ => rfl) _ _ pa ok (hand.keep la.keep) fun s' ok' => wpAny_pure (q env s' F ok')
end Mine



namespace Mine
open PySem PyProof.Rows

structure FnB (B : Base) (a : Addr) (fd : FuncData) : Prop where
  fn : FnIn B.h₁ a fd
  ad : a ∉ B.T
  cd : ∀ c, fd.code = .ref c → c ∉ B.T
theorem FnB.at {B : Base} {a : Addr} {fd : FuncData} (x : FnB B a fd) {h : Heap} (k : Ext B.T B.h₁ h) : FnIn h a fd :=
  { x.fn with
    obj := (let ⟨o, e, r⟩ := x.fn.obj; ⟨o, k.keep _ _ x.ad e, r⟩)
    code := (let ⟨c, o, vs, t, e, g, r⟩ := x.fn.code; ⟨c, o, vs, t, e, k.keep _ _ (x.cd c e) g, r⟩) }

theorem call_fn {B : Base} {A : Around} {n : Nat} {T : List Addr} {s : Shared} {a : Addr} {fd : FuncData} {body : List Stmt} {vs : List Value} {binds : List (Str × Value)} {ds : List (Bool × D)} {ρp ρ₀ ρ₁ : List (Str × Ent)} {W : List Addr} {R : Result → Shared → Prop}
    (rm : Room A (n + 1)) (tsub : ∀ a ∈ T, a ∈ B.T) (start : Ext B.T B.h₁ s.heap) (fn : FnIn s.heap a fd) (hbody : fd.body = .stmts body) (hbind : bindArgs fd ⟨vs, []⟩ = pure binds) (clo : CloOk W s.heap fd.closure ρp) (lo : LayOf B ρp fd.scope.names ρ₀)
    (pa : PutAll ρ₀ binds ds ρ₁) (hand : Hand s.heap W s.heap (binds.map (·.2)) ds) (wal : ∀ a ∈ W, ∃ o, s.heap.get? a = some o)
    (run : ∀ env s', Fine ⟨B, A.deeper env, env, s, n, T, closable fd.scope.names⟩ → OkP ⟨B, A.deeper env, env, s, n, T, closable fd.scope.names⟩ W [] ρ₁ s' →
      wpAny (model B.prog B.w) (A.deeper env) (execs body env) (fun f s'' => R (.ok (.ret (match f with | .ret v => v | _ => .none))) s'') NoE s') :
    codeAny (model B.prog B.w) A (.call (.ref a) ⟨vs, []⟩) R s := by
  obtain ⟨o, ho, hd⟩ := fn.obj
  refine codeAny_call_function (by have := rm.dep; omega) ho hd fn.co fn.gen hbody fn.code ?_
  rw [hbind]
  refine wpAny_pure (wpAny_mono (env_fn rm tsub start fn clo lo pa hand wal (Q := fun env s₂ => s₂.heap.NoLimit ∧ codeAny (model B.prog B.w) A (.func body env) R s₂) fun env s' F ok => ⟨ok.ok.lim F, codeAny_func (wpAny_mono (run env s' F ok) (fun _ _ h => h) fun _ _ h => h.elim)⟩) (fun _ _ h => h) fun _ _ h => h.elim)

theorem call_lam {B : Base} {A : Around} {n : Nat} {T : List Addr} {s : Shared} {a : Addr} {fd : FuncData} {body : Expr} {vs : List Value} {binds : List (Str × Value)} {ds : List (Bool × D)} {ρp ρ₀ ρ₁ : List (Str × Ent)} {W : List Addr} {R : Result → Shared → Prop}
    (rm : Room A (n + 1)) (tsub : ∀ a ∈ T, a ∈ B.T) (start : Ext B.T B.h₁ s.heap) (fn : FnIn s.heap a fd) (hbody : fd.body = .expr body) (hbind : bindArgs fd ⟨vs, []⟩ = pure binds) (clo : CloOk W s.heap fd.closure ρp) (lo : LayOf B ρp fd.scope.names ρ₀)
    (pa : PutAll ρ₀ binds ds ρ₁) (hand : Hand s.heap W s.heap (binds.map (·.2)) ds) (wal : ∀ a ∈ W, ∃ o, s.heap.get? a = some o)
    (run : ∀ env s', Fine ⟨B, A.deeper env, env, s, n, T, closable fd.scope.names⟩ → OkP ⟨B, A.deeper env, env, s, n, T, closable fd.scope.names⟩ W [] ρ₁ s' →
      wpAny (model B.prog B.w) (A.deeper env) (eval body env) (fun v s'' => R (.ok (.ret v)) s'') NoE s') :
    codeAny (model B.prog B.w) A (.call (.ref a) ⟨vs, []⟩) R s := by
  obtain ⟨o, ho, hd⟩ := fn.obj
  refine codeAny_of_tree ?_
  show wpAny _ A.in1 (callAny (.ref a) ⟨vs, []⟩) _ _ s
  simp only [callAny]
  refine wpAny_bind (wpAny_load ho ?_)
  obtain ⟨c, oc, vs', tq, hc, hoc, hdc, hq⟩ := id fn.code
  simp only [hd, callFunction, fn.co, fn.gen, hbody]
  rw [hc]
  refine wpAny_bind (m := field (.ref c) 1) (wpAny_field hoc hdc hq (wpAny_bind (wpAny_pure ?_)))
  rw [hbind]
  refine wpAny_bind (wpAny_pure (wpAny_bind ?_))
  rw [← hc]
  refine wpAny_mono (env_fn rm tsub start fn clo lo pa hand wal (Q := fun env s₂ => s₂.heap.NoLimit ∧ codeAny (model B.prog B.w) A (.expr body env) R s₂) fun env s' F ok => ⟨ok.ok.lim F, ?_⟩) (fun env s₂ h₂ => wpAny_bind (wpAny_enterFrame h₂.1 (by have := rm.dep; show A.depth < _; omega) (wpAny_pure (And.intro rfl h₂.2)))) fun _ _ h => h.elim
  refine codeAny_of_tree ?_
  show wpAny _ (A.deeper env) (do point; ret (← (eval body env).onRaise (leaving env))) _ _ s'
  exact wpAny_bind (wpAny_point (wpAny_bind (wpAny_onRaise (wpAny_mono (run env s' F ok) (fun _ _ h => wpAny_pure h) fun _ _ h => h.elim))))

noncomputable def D.kept : D → Bool
  | .list _ => false
  | _ => true
noncomputable def flags (ds : List D) : List (Bool × D) := ds.map fun d => (d.kept, d)
theorem RepTs.hand {W : List Addr} {h : Heap} {vs : List Value} {ds : List D} (x : RepTs W h vs ds) : Hand h W h vs (flags ds) := by
  induction x with
  | nil => exact .nil
  | @cons v d vs ds r _ ih =>
    cases d with
    | list es => exact .tmp r (fun b e => by obtain ⟨a, us, e', ⟨_, ho⟩, _⟩ := r; rw [e] at e'; cases e'; exact ⟨_, ho⟩) ih
    | _ => exact .val r ih
theorem RepTs.length {W : List Addr} {h : Heap} {vs : List Value} {ds : List D} (x : RepTs W h vs ds) : vs.length = ds.length := by
  induction x with
  | nil => rfl
  | cons _ _ ih => rw [List.length_cons, List.length_cons, ih]
theorem zip_snd : ∀ (ns : List Str) (vs : List Value), vs.length = ns.length → (ns.zip vs).map (·.2) = vs
  | [], [], _ => rfl
  | [], _ :: _, h => by simp at h
  | _ :: _, [], h => by simp at h
  | x :: ns, v :: vs, h => by rw [List.zip_cons_cons, List.map_cons, zip_snd ns vs (by simpa using h)]

/-- entries of the parameters -/
inductive Puts : List (Str × Ent) → List Str → List D → List (Str × Ent) → Prop
  | nil {ρ : List (Str × Ent)} : Puts ρ [] [] ρ
  | cons {ρ ρ' ρ'' : List (Str × Ent)} {x : Str} {d : D} {e : Ent} {ns : List Str} {ds : List D} : Put ρ x e ρ' → (e = if d.kept then .val true d else .tmp true d) → Puts ρ' ns ds ρ'' → Puts ρ (x :: ns) (d :: ds) ρ''
theorem Puts.all {ρ ρ' : List (Str × Ent)} {ns : List Str} {ds : List D} (h : Puts ρ ns ds ρ') : ∀ {vs : List Value}, vs.length = ds.length → PutAll ρ (ns.zip vs) (flags ds) ρ' := by
  induction h with
  | nil => intro vs hl; cases vs <;> first | exact .nil | simp at hl
  | @cons ρ ρ' ρ'' x d e ns ds hp he _ ih =>
    intro vs hl
    cases vs with
    | nil => simp at hl
    | cons v vs =>
      rw [List.zip_cons_cons]
      show PutAll ρ ((x, v) :: ns.zip vs) ((d.kept, d) :: flags ds) ρ''
      subst he
      cases hk : d.kept with
      | true => rw [hk] at hp; exact .val hp (ih (by simpa using hl))
      | false => rw [hk] at hp; exact .tmp hp (ih (by simpa using hl))
theorem Puts.len {ρ ρ' : List (Str × Ent)} {ns : List Str} {ds : List D} (h : Puts ρ ns ds ρ') : ns.length = ds.length := by
  induction h with
  | nil => rfl
  | cons _ _ _ ih => rw [List.length_cons, List.length_cons, ih]

theorem Post.back {l : Lv} {W : List Addr} {s s₁ : Shared} {v : Value} {h' : Heap} {d : D} (k : SExt [] s s₁) (x : Post l W s₁.heap v h' d) : Post l W s.heap v h' d := by
  cases l with
  | t => exact x
  | s => exact x
  | f => exact ⟨x.1, fun a e => k.ext.fresh (x.2 a e)⟩

/-- what a call gives -/
noncomputable def CallV (X : Cx) (W : List Addr) (f : Value) (ds : List D) (l : Lv) (d : D) : Prop :=
  ∀ s ρ vs, Fine X → Ok X W ρ s → RepTs W s.heap vs ds → wpAny X.M X.A (call f vs []) (fun v s' => SExt [] s s' ∧ Post l W s.heap v s'.heap d) NoE s

/-- a def of the text, called: run its body -/
theorem callV_fn {X : Cx} {W : List Addr} {a : Addr} {fd : FuncData} {as : List Arg} {body : List Stmt} {ds : List D} {l : Lv} {d : D} {ρ₀ ρ₁ : List (Str × Ent)} {n : Nat} (hn : n + 1 ≤ X.n)
    (fb : FnB X.B a fd) (hbody : fd.body = .stmts body) (hp : fd.params = ⟨[], as, Option.none, [], [], Option.none, []⟩) (hd : fd.defaults = .none) (hc : fd.closure = [])
    (nd : (as.map (·.arg)).Nodup) (lo : LayOf X.B [] fd.scope.names ρ₀) (pu : Puts ρ₀ (as.map (·.arg)) ds ρ₁)
    (run : ∀ X' s', X'.B = X.B → X'.n = n → X'.T = [] → X'.κ = closable fd.scope.names → Fine X' → (∀ a ∈ W, ∃ o, X'.sE.heap.get? a = some o) → OkP X' W [] ρ₁ s' →
      wpAny X'.M X'.A (execs body X'.env) (fun f s'' => ∃ v, f = .ret v ∧ SExt [] X'.sE s'' ∧ Post l W X'.sE.heap v s''.heap d) NoE s') : CallV X W (.ref a) ds l d := by
  intro s ρ vs F hs hr
  have hl : vs.length = as.length := by rw [hr.length, ← pu.len, List.length_map]
  refine wpAny_call ?_
  refine call_fn (n := n) (T := []) (F.room.less hn) (fun _ h => nomatch h) (hs.base F) (fb.at (hs.base F)) hbody (bind_plain hp hd hl nd) (hc ▸ CloOk.nil) lo (pu.all hr.length) (by rw [zip_snd _ _ (by rw [List.length_map]; exact hl)]; exact hr.hand) hs.wal ?_
  intro env s' F' ok
  refine wpAny_mono (run ⟨X.B, X.A.deeper env, env, s, n, [], closable fd.scope.names⟩ s' rfl rfl rfl rfl F' hs.wal ok) (fun f s'' h => ?_) fun _ _ h => h.elim
  obtain ⟨v, rfl, k, p⟩ := h
  exact ⟨k, p⟩
end Mine



namespace Mine
open PySem PyProof.Rows

noncomputable def KeepOk (X : Cx) (W : List Addr) (f : Value) : Prop := ∀ s ρ, Fine X → Ok X W ρ s → wpAny X.M X.A (keeperOf f) (fun _ s' => s' = s) NoE s
theorem keepOk_builtin {X : Cx} {W : List Addr} {id : String} : KeepOk X W (.builtin id) := fun s ρ F hs => wpAny_pure rfl
theorem keepOk_type {X : Cx} {W : List Addr} {id : String} : KeepOk X W (.type id) := fun s ρ F hs => wpAny_pure rfl
theorem keepOk_fn {X : Cx} {W : List Addr} {a : Addr} {fd : FuncData} (fb : FnB X.B a fd) : KeepOk X W (.ref a) := fun s ρ F hs => by
  obtain ⟨o, ho, hd⟩ := (fb.at (hs.base F)).obj
  unfold keeperOf
  refine wpAny_bind (wpAny_load ho ?_)
  rw [hd]
  exact wpAny_pure rfl

theorem evalArgs_noStar {M : Model} {A : Around} {E : Value → Shared → Prop} {s : Shared} {f : Value} {args : List (Bool × Sem Value)} {Q : Args → Shared → Prop} (hst : args.any (·.1) = false)
    (h : wpAny M A (spliced args) (fun vs s' => Q ⟨vs, []⟩ s') E s) : wpAny M A (evalArgs f true args []) Q E s := by
  cases args with
  | nil =>
    unfold evalArgs
    show wpAny M A (spliced [] >>= _) Q E s
    exact wpAny_bind (wpAny_mono h (fun vs s' h' => wpAny_holding (wpAny_bind (wpAny_pure (wpAny_bind (wpAny_pure (wpAny_pure h')))))) fun _ _ x => x)
  | cons p rest =>
    obtain ⟨b, x⟩ := p
    rw [List.any_cons, Bool.or_eq_false_iff] at hst
    have hb : b = false := hst.1
    subst hb
    exact Calls.evalArgs_plain h

theorem callWith_V {X : Cx} {W : List Addr} {ρ : List (Str × Ent)} {f : Value} {es : List Expr} {ds : List D} {l : Lv} {d : D} {pos : Pos} {s : Shared} (F : Fine X) (hs : Ok X W ρ s) (ha : EvTs X W ρ es ds) (hc : CallV X W f ds l d) (hk : KeepOk X W f)
    (hst : (backTo pos (starEach es X.env)).any (·.1) = false) : wpAny X.M X.A (callWith pos f [] (backTo pos (starEach es X.env)) []) (fun v s' => SExt [] s s' ∧ Post l W s.heap v s'.heap d) NoE s := by
  unfold callWith
  refine wpAny_bind (wpAny_holding (evalArgs_noStar hst (wpAny_mono (ha pos s hs) (fun vs s₁ h₁ => wpAny_bind (wpAny_standAt ?_)) fun _ _ x => x)))
  have hs₁ := hs.mono h₁.1
  have main : wpAny X.M X.A (call f ([] ++ vs) []) (fun v s' => SExt [] s s' ∧ Post l W s.heap v s'.heap d) NoE s₁ :=
    wpAny_mono (hc s₁ ρ vs F hs₁ h₁.2) (fun v s' h => ⟨h₁.1.trans h.1, h.2.back h₁.1⟩) fun _ _ x => x
  have tail : ∀ {t : Sem Value}, wpAny X.M X.A t (fun v s' => SExt [] s s' ∧ Post l W s.heap v s'.heap d) NoE s₁ → wpAny X.M X.A (t >>= fun r => holding [r] point >>= fun _ => pure r) (fun v s' => SExt [] s s' ∧ Post l W s.heap v s'.heap d) NoE s₁ :=
    fun ht => wpAny_bind (wpAny_mono ht (fun r s₂ hr => wpAny_bind (wpAny_holding (wpAny_point (wpAny_pure hr)))) fun _ _ x => x)
  simp only [hst, List.any_nil, Bool.or_false]
  refine wpAny_bind (wpAny_mono (hk s₁ ρ F hs₁) (fun k s₂ e => ?_) fun _ _ x => x)
  subst e
  cases k with
  | frame =>
    dsimp only
    split
    · exact tail main
    · exact tail (by unfold callMarked; exact Calls.wpAny_keep main)
  | boundFrame =>
    dsimp only
    split
    · exact tail main
    · exact tail (by unfold callMarked; exact Calls.wpAny_keep main)
  | machine => exact tail main
  | caller => exact tail (wpAny_operateT main)

theorem ev_call {X : Cx} {W : List Addr} {ρ : List (Str × Ent)} {g : Str} {p : Pos} {f : Value} {es : List Expr} {ds : List D} {l : Lv} {d : D} {pos : Pos} (F : Fine X) (hf : (g, Ent.gl f) ∈ ρ) (ha : EvTs X W ρ es ds) (hc : CallV X W f ds l d) (hk : KeepOk X W f)
    (hst : ∀ env, (backTo pos (starEach es env)).any (·.1) = false := by intro _; rfl) (hg : okName g = true := by decide +kernel) : Ev X W ρ l (.Call (.Name g p) es [] pos) d := fun s hs => by
  show wpAny X.M X.A (eval (.Name g p) X.env >>= fun v => callWith pos v [] (backTo pos (starEach es X.env)) (backToKw pos (keywordEach [] X.env))) _ _ s
  refine wpAny_bind (wpAny_mono (ev_gl F hf hg s hs) (fun v s₁ h₁ => ?_) fun _ _ x => x)
  have e : v = f := by
    have r : Rep W s₁.heap v (.val f) := h₁.2
    cases r with | val => rfl
  subst e
  exact wpAny_mono (callWith_V F (hs.mono h₁.1) ha hc hk (hst _)) (fun v s' h => ⟨h₁.1.trans h.1, h.2.back h₁.1⟩) fun _ _ x => x

section
variable {X : Cx} {W : List Addr}
theorem repTs_one {h : Heap} {vs : List Value} {d : D} (r : RepTs W h vs [d]) : ∃ v, vs = [v] ∧ RepT W h v d := by
  cases r with | cons a b => cases b; exact ⟨_, rfl, a⟩
theorem repTs_two {h : Heap} {vs : List Value} {d d' : D} (r : RepTs W h vs [d, d']) : ∃ v v', vs = [v, v'] ∧ RepT W h v d ∧ RepT W h v' d' := by
  cases r with | cons a b => cases b with | cons c e => cases e; exact ⟨_, _, rfl, a, c⟩
theorem callV_len {ds : List D} (hz : ds.length ≤ 1000000) : CallV X W (.builtin "len") [.list ds] .f (.int ds.length) := fun s ρ vs F hs hr => by
  obtain ⟨v, rfl, a, us, rfl, hl, r⟩ := repTs_one hr
  refine Calls.call_len_list hl.isList (by rw [List.size_toArray, r.length]; omega) ?_
  have e : ((us.toArray.size : Nat) : Int) = (ds.length : Int) := by rw [List.size_toArray, r.length]
  rw [e]
  exact ⟨sext_toks _ _, .int _ _, fun _ e => by cases e⟩
theorem callV_min {a b : Int} : CallV X W (.builtin "min") [.int a, .int b] .f (.int (if b < a then b else a)) := fun s ρ vs F hs hr => by
  obtain ⟨v, v', rfl, r, r'⟩ := repTs_two hr
  obtain ⟨t, rfl⟩ := repT_int r
  obtain ⟨u, rfl⟩ := repT_int r'
  refine min_two_ints F.hnd fun h' tk hk => ?_
  by_cases c : b < a
  · simp only [if_pos c]; exact ⟨sext_keep _ _ _ hk, .int _ _, fun _ e => by cases e⟩
  · simp only [if_neg c]; exact ⟨sext_keep _ _ _ hk, .int _ _, fun _ e => by cases e⟩
theorem callV_max {a b : Int} : CallV X W (.builtin "max") [.int a, .int b] .f (.int (if b > a then b else a)) := fun s ρ vs F hs hr => by
  obtain ⟨v, v', rfl, r, r'⟩ := repTs_two hr
  obtain ⟨t, rfl⟩ := repT_int r
  obtain ⟨u, rfl⟩ := repT_int r'
  refine max_two_ints F.hnd fun h' tk hk => ?_
  by_cases c : b > a
  · simp only [if_pos c]; exact ⟨sext_keep _ _ _ hk, .int _ _, fun _ e => by cases e⟩
  · simp only [if_neg c]; exact ⟨sext_keep _ _ _ hk, .int _ _, fun _ e => by cases e⟩
end
end Mine



namespace Mine
open PySem PyProof.Rows

noncomputable def rangeD (lo hi : Int) : List D := (List.range (hi - lo).toNat).map fun (i : Nat) => D.int (lo + i)

inductive SrcOk (W : List Addr) (h : Heap) : Value → List D → Prop
  | list {a : Addr} {vs : List Value} {ds : List D} : h.PlainList a vs.toArray → a ∉ W → Reps W h vs ds → SrcOk W h (.ref a) ds
  | range {a : Addr} {lo hi : Int} {t u v : Tok} : IsRange h a lo hi 1 t u v → -(2 ^ 62) ≤ lo → lo < 2 ^ 62 → -(2 ^ 62) ≤ hi → hi < 2 ^ 62 → SrcOk W h (.ref a) (rangeD lo hi)

noncomputable def Src (X : Cx) (W : List Addr) (ρ : List (Str × Ent)) (e : Expr) (ds : List D) : Prop :=
  ∀ s, Ok X W ρ s → wpAny X.M X.A (eval e X.env) (fun v s' => SExt [] s s' ∧ SrcOk W s'.heap v ds) NoE s

section
variable {X : Cx} {W : List Addr} {ρ : List (Str × Ent)}
theorem src_list {e : Expr} {ds : List D} (h : Ev X W ρ .s e (.list ds)) : Src X W ρ e ds := fun s hs =>
  wpAny_mono (h s hs) (fun v s' k => ⟨k.1, by
    have r : Rep W s'.heap v (.list ds) := k.2
    cases r with | list hl hw hr => exact .list hl hw hr⟩) fun _ _ x => x

/-- a call, any end -/
theorem callWith_Q {f : Value} {args : List (Bool × Sem Value)} {pos : Pos} {s : Shared} {Q : Value → Shared → Prop} {V : List Value → Heap → Prop} (F : Fine X) (hs : Ok X W ρ s)
    (ha : wpAny X.M X.A (spliced args) (fun vs s' => SExt [] s s' ∧ V vs s'.heap) NoE s) (hk : KeepOk X W f)
    (hc : ∀ vs s₁, SExt [] s s₁ → V vs s₁.heap → wpAny X.M X.A (call f vs []) Q NoE s₁)
    (hst : args.any (·.1) = false) : wpAny X.M X.A (callWith pos f [] args []) Q NoE s := by
  unfold callWith
  refine wpAny_bind (wpAny_holding (evalArgs_noStar hst (wpAny_mono ha (fun vs s₁ h₁ => wpAny_bind (wpAny_standAt ?_)) fun _ _ x => x)))
  have hs₁ := hs.mono h₁.1
  have main : wpAny X.M X.A (call f ([] ++ vs) []) Q NoE s₁ := hc vs s₁ h₁.1 h₁.2
  have tail : ∀ {t : Sem Value}, wpAny X.M X.A t Q NoE s₁ → wpAny X.M X.A (t >>= fun r => holding [r] point >>= fun _ => pure r) Q NoE s₁ :=
    fun ht => wpAny_bind (wpAny_mono ht (fun r s₂ hr => wpAny_bind (wpAny_holding (wpAny_point (wpAny_pure hr)))) fun _ _ x => x)
  simp only [hst, List.any_nil, Bool.or_false]
  refine wpAny_bind (wpAny_mono (hk s₁ ρ F hs₁) (fun k s₂ e => ?_) fun _ _ x => x)
  subst e
  cases k with
  | frame =>
    dsimp only
    split
    · exact tail main
    · exact tail (by unfold callMarked; exact Calls.wpAny_keep main)
  | boundFrame =>
    dsimp only
    split
    · exact tail main
    · exact tail (by unfold callMarked; exact Calls.wpAny_keep main)
  | machine => exact tail main
  | caller => exact tail (wpAny_operateT main)

theorem name_Q {g : Str} {p : Pos} {f : Value} {es : List Expr} {pos : Pos} {s : Shared} {Q : Value → Shared → Prop} (F : Fine X) (hs : Ok X W ρ s) (hf : (g, Ent.gl f) ∈ ρ) (hg : okName g = true)
    (h : ∀ s₁, SExt [] s s₁ → wpAny X.M X.A (callWith pos f [] (backTo pos (starEach es X.env)) []) Q NoE s₁) : wpAny X.M X.A (eval (.Call (.Name g p) es [] pos) X.env) Q NoE s := by
  show wpAny X.M X.A (eval (.Name g p) X.env >>= fun v => callWith pos v [] (backTo pos (starEach es X.env)) (backToKw pos (keywordEach [] X.env))) _ _ s
  refine wpAny_bind (wpAny_mono (ev_gl F hf hg s hs) (fun v s₁ h₁ => ?_) fun _ _ x => x)
  have e : v = f := by
    have r : Rep W s₁.heap v (.val f) := h₁.2
    cases r with | val => rfl
  subst e
  exact h s₁ h₁.1

theorem src_range1 {p pos : Pos} {l : Lv} {e : Expr} {n : Int} (F : Fine X) (hm : ((Str.ofString "range" : Str), Ent.gl (.type "range")) ∈ ρ) (h : Ev X W ρ l e (.int n)) (h1 : -(2 ^ 62) ≤ n) (h2 : n < 2 ^ 62)
    (hse : ∀ env, starEach [e] env = [(false, eval e env)] := by intro _; rfl) : Src X W ρ (.Call (.Name (Str.ofString "range") p) [e] [] pos) (rangeD 0 n) := fun s hs => by
  refine name_Q F hs hm (by decide +kernel) fun s₁ k₁ => ?_
  refine callWith_Q (V := fun vs h => RepTs W h vs [.int n]) F (hs.mono k₁) (evTs_cons h evTs_nil (hse _) pos s₁ (hs.mono k₁)) keepOk_type (fun vs s₂ k₂ hv => ?_) (by rw [hse]; rfl)
  obtain ⟨v, rfl, r⟩ := repTs_one hv
  obtain ⟨t, rfl⟩ := repT_int r
  refine call_range_1 ⟨(k₁.trans k₂).trans ⟨(Ext.refl ..).push _, rfl, rfl⟩, ?_⟩
  exact .range (IsRange.new ..) (by decide) (by decide) h1 h2
theorem src_range2 {p pos : Pos} {l l' : Lv} {e e' : Expr} {a n : Int} (F : Fine X) (hm : ((Str.ofString "range" : Str), Ent.gl (.type "range")) ∈ ρ) (h : Ev X W ρ l e (.int a)) (h' : Ev X W ρ l' e' (.int n)) (h3 : -(2 ^ 62) ≤ a) (h4 : a < 2 ^ 62) (h1 : -(2 ^ 62) ≤ n) (h2 : n < 2 ^ 62)
    (hse : ∀ env, starEach [e, e'] env = [(false, eval e env), (false, eval e' env)] := by intro _; rfl) (hse' : ∀ env, starEach [e'] env = [(false, eval e' env)] := by intro _; rfl) : Src X W ρ (.Call (.Name (Str.ofString "range") p) [e, e'] [] pos) (rangeD a n) := fun s hs => by
  refine name_Q F hs hm (by decide +kernel) fun s₁ k₁ => ?_
  refine callWith_Q (V := fun vs h => RepTs W h vs [.int a, .int n]) F (hs.mono k₁) (evTs_cons h (evTs_cons h' evTs_nil (hse' _)) (by rw [hse, hse']) pos s₁ (hs.mono k₁)) keepOk_type (fun vs s₂ k₂ hv => ?_) (by rw [hse]; rfl)
  obtain ⟨v, v', rfl, r, r'⟩ := repTs_two hv
  obtain ⟨t, rfl⟩ := repT_int r
  obtain ⟨u, rfl⟩ := repT_int r'
  refine call_range_2 ⟨(k₁.trans k₂).trans ⟨(Ext.refl ..).push _, rfl, rfl⟩, ?_⟩
  exact .range (IsRange.new ..) h3 h4 h1 h2
end

inductive ItOk (W : List Addr) (h : Heap) (it : Addr) : List Pr → List D → Nat → Prop
  | list {l : Addr} {o : Obj} {vs : List Value} {ds : List D} {i ep : Nat} : h.get? l = some o → o.cls = .type "list" → o.data = .seq vs.toArray ep → l ∉ W → Reps W h vs ds → h.IsListIter it l i → ItOk W h it [.obj l o, .reps vs ds] ds i
  | range {lo : Int} {n i : Nat} : IsRangeIter h it (lo + i) ((n : Int) - i) 1 → ItOk W h it [] ((List.range n).map fun (k : Nat) => D.int (lo + k)) i

theorem ItOk.obj {W : List Addr} {h : Heap} {it : Addr} {G : List Pr} {ds : List D} {i : Nat} (x : ItOk W h it G ds i) : ∃ o vs, h.get? it = some o ∧ o.data = .fields vs := by
  cases x with
  | list _ _ _ _ _ hi => obtain ⟨o, ho, _, hd⟩ := hi; exact ⟨o, _, ho, hd⟩
  | range hi => exact ⟨_, _, hi, rfl⟩
theorem ItOk.prot {W : List Addr} {h h' : Heap} {it : Addr} {G P : List Pr} {ds : List D} {i : Nat} {o : Obj} (x : ItOk W h it G ds i) (ho : h.get? it = some o) (p : Prot (.obj it o :: (G ++ P)) W h') : ItOk W h' it G ds i := by
  have hit : h'.get? it = some o := (p _ (.head _)).1
  cases x with
  | @list l ol vs ds i ep hl hc hd hw hr hi =>
    have p1 : PrOk W h' (.obj l ol) := p _ (.tail _ (.head _))
    have p2 : PrOk W h' (.reps vs ds) := p _ (.tail _ (.tail _ (.head _)))
    obtain ⟨o', ho', hc', hd'⟩ := hi
    rw [ho] at ho'; cases ho'
    exact .list p1.1 hc hd hw p2 ⟨o, hit, hc', hd'⟩
  | range hi =>
    refine .range ?_
    have e : some o = some _ := ho.symm.trans hi
    rw [Option.some.inj e] at hit
    exact hit
theorem ItOk.allProt {W : List Addr} {h : Heap} {it : Addr} {G P : List Pr} {ds : List D} {i : Nat} {o : Obj} (x : ItOk W h it G ds i) (ho : h.get? it = some o) (hw : it ∉ W) (p : Prot P W h) : Prot (.obj it o :: (G ++ P)) W h := by
  obtain ⟨o', vs, ho', hd⟩ := x.obj
  rw [ho] at ho'; cases ho'
  intro q hq
  rcases List.mem_cons.mp hq with rfl | hq
  · exact ⟨ho, hw, .inl ⟨vs, hd⟩⟩
  · rcases List.mem_append.mp hq with hq | hq
    · cases x with
      | list hl hc hd hw hr hi =>
        rcases List.mem_cons.mp hq with rfl | hq
        · exact ⟨hl, hw, .inr ⟨_, _, hd⟩⟩
        · rcases List.mem_cons.mp hq with rfl | hq
          · exact hr
          · cases hq
      | range _ => cases hq
    · exact p q hq

/-- an iterator moves on -/
theorem Holds1.extBut {h h' : Heap} {env : Env} {x : Str} {ov : Option Value} {a : Addr} (y : Holds1 h env x ov) (k : Heap.ExtBut a h h') {o : Obj} {vs : Array Value} (ho : h.get? a = some o) (hd : o.data = .fields vs) : Holds1 h' env x ov := by
  rcases y with ⟨b, m, n, e⟩ | ⟨b, c, e, n⟩
  · refine .inl ⟨b, m, n.extBut k fun z => ?_, e⟩
    obtain ⟨o', es, ep, ho', hd', _⟩ := n
    rw [z, ho] at ho'; cases ho'
    rw [hd] at hd'; cases hd'
  · refine .inr ⟨b, c, e, ?_⟩
    obtain ⟨o', ho', hd'⟩ := n
    refine ⟨o', k _ _ (fun z => ?_) ho', hd'⟩
    rw [z, ho] at ho'; cases ho'
    rw [hd] at hd'; cases hd'
theorem OkP.step {X : Cx} {W : List Addr} {P : List Pr} {ρ : List (Str × Ent)} {s : Shared} {it : Addr} {o : Obj} {vs : Array Value} {h' : Heap} {tk : Nat} (x : OkP X W P ρ s) (ho : s.heap.get? it = some o) (hd : o.data = .fields vs)
    (hfr : X.sE.heap.get? it = Option.none) (hw : it ∉ W) (hp : ∀ o, Pr.obj it o ∉ P) (k : Heap.ExtBut it s.heap h') : OkP X W P ρ { s with heap := h', toks := tk } := by
  have nd : NoData s.heap it := .fields ho hd
  refine ⟨⟨⟨x.ok.ext.ext.extBut hfr k, x.ok.ext.gens, x.ok.ext.os⟩, x.ok.nd, fun p hp => ?_, x.ok.own, fun a ha => ?_⟩, fun p hp' => ?_⟩
  · rcases x.ok.ent p hp with g | ⟨⟨ov, a, b⟩, c⟩
    · exact .inl g
    · exact .inr ⟨⟨ov, a.extBut k ho hd, b.extBut k nd⟩, c⟩
  · obtain ⟨o, e⟩ := x.ok.wal a ha
    exact ⟨o, k _ _ (fun z => hw (z ▸ ha)) e⟩
  · have y := x.prot p hp'
    cases p with
    | obj b o' => exact ⟨k _ _ (fun z => hp o' (z ▸ hp')) y.1, y.2⟩
    | reps vs ds => exact Reps.extBut y k (.inr nd)

theorem it_start {X : Cx} {W : List Addr} {ρ : List (Str × Ent)} {s : Shared} {v : Value} {ds : List D} (F : Fine X) (hs : Ok X W ρ s) (h : SrcOk W s.heap v ds) {Q : Value → Shared → Prop}
    (q : ∀ it G s', SExt [] s s' → ItOk W s'.heap it G ds 0 → s.heap.get? it = Option.none → Q (.ref it) s') : wpAny X.M X.A (pyIter v) Q NoE s := by
  cases h with
  | list hl hw hr =>
    obtain ⟨o, ho, hc, n, hd⟩ := hl.isList
    refine wpAny_pyIter_list hl.isList (q _ _ _ (sext_push _ _) (.list (Heap.get?_push_of_some _ ho) hc hd hw (hr.keep fun b o e => Heap.get?_push_of_some _ e) ⟨_, Heap.get?_push_size _ rfl, rfl, rfl⟩) (get_size _))
  | @range a lo hi t u v hr h1 h2 h3 h4 =>
    refine wpAny_pyIter_range hr (small_one h1 h2 h3 h4) (q _ [] _ (sext_push _ _) ?_ (get_size _))
    refine .range ?_
    have e : Builtin.Range.rangeSize lo hi 1 = (((hi - lo).toNat : Nat) : Int) := rangeSize_nat lo hi
    rw [e]
    have e1 : lo + ((0 : Nat) : Int) = lo := by simp
    have e2 : (((hi - lo).toNat : Nat) : Int) - ((0 : Nat) : Int) = (((hi - lo).toNat : Nat) : Int) := by simp
    rw [e1, e2]
    exact Heap.get?_push_size _ rfl

theorem it_next {X : Cx} {W : List Addr} {P : List Pr} {ρ : List (Str × Ent)} {s : Shared} {it : Addr} {G : List Pr} {ds : List D} {i : Nat} {d : D} (F : Fine X) (ok : OkP X W P ρ s) (hit : ItOk W s.heap it G ds i) (hd : ds[i]? = some d)
    (hfr : X.sE.heap.get? it = Option.none) (hw : it ∉ W) (hp : ∀ o, Pr.obj it o ∉ P) {Q : Option Value → Shared → Prop}
    (q : ∀ v s', OkP X W P ρ s' → ItOk W s'.heap it G ds (i + 1) → Rep W s'.heap v d → Mv s.heap s'.heap → Q (some v) s') : wpAny X.M X.A (pyNext (.ref it)) Q NoE s := by
  cases hit with
  | @list l o vs ds i ep hl hc hdl hlw hr hi =>
    obtain ⟨v, hv, rv⟩ := hr.get hd
    obtain ⟨oi, hoi, hci, hdi⟩ := id hi
    have hli : l ≠ it := fun z => by
      rw [z, hoi] at hl; cases hl
      rw [hdl] at hdi; cases hdi
    refine wpAny_pyNext_list_item hi ⟨o, hl, hc, _, hdl⟩ (by simpa using hv) fun h' hi' hsb => ?_
    have nd : NoData s.heap it := .fields hoi hdi
    refine q v _ (ok.step (tk := s.toks) hoi hdi hfr hw hp hsb.extBut) (.list (hsb.extBut _ _ hli hl) hc hdl hlw (hr.extBut hsb.extBut (.inr nd)) hi') (rv.extBut hsb.extBut (.inr nd)) (Moved.mv ⟨it, hsb.extBut, nd⟩)
  | @range lo n i hi =>
    have hlt : i < n := by
      have := (List.getElem?_eq_some_iff.mp hd).1
      simpa using this
    have he : d = .int (lo + i) := by
      rw [List.getElem?_map, List.getElem?_range hlt] at hd
      cases hd; rfl
    subst he
    refine wpAny_pyNext_range_item hi (by omega) fun h' hi' hsb => ?_
    refine q _ _ (ok.step (tk := s.toks + 1) hi rfl hfr hw hp hsb.extBut) (.range ?_) (.int _ _) (Moved.mv ⟨it, hsb.extBut, .fields hi rfl⟩)
    have e1 : lo + (i : Int) + 1 = lo + ((i + 1 : Nat) : Int) := by omega
    have e2 : ((n : Int) - (i : Int)) - 1 = (n : Int) - ((i + 1 : Nat) : Int) := by omega
    rw [e1, e2] at hi'
    exact hi'

theorem it_end {X : Cx} {W : List Addr} {P : List Pr} {ρ : List (Str × Ent)} {s : Shared} {it : Addr} {G : List Pr} {ds : List D} {i : Nat} (F : Fine X) (ok : OkP X W P ρ s) (hit : ItOk W s.heap it G ds i) (hd : ds[i]? = Option.none)
    (hfr : X.sE.heap.get? it = Option.none) (hw : it ∉ W) (hp : ∀ o, Pr.obj it o ∉ P) {Q : Option Value → Shared → Prop}
    (q : ∀ s', OkP X W P ρ s' → Mv s.heap s'.heap → Q Option.none s') : wpAny X.M X.A (pyNext (.ref it)) Q NoE s := by
  cases hit with
  | @list l o vs ds i ep hl hc hdl hlw hr hi =>
    obtain ⟨oi, hoi, hci, hdi⟩ := id hi
    refine wpAny_pyNext_list_end F.hnd hi ⟨o, hl, hc, _, hdl⟩ ?_ fun h' hk => q _ (ok.step (tk := s.toks) hoi hdi hfr hw hp hk) (Moved.mv ⟨it, hk, .fields hoi hdi⟩)
    rw [List.getElem?_eq_none_iff] at hd
    simp only [List.getElem?_toArray, List.getElem?_eq_none_iff]
    rw [hr.length]; exact hd
  | @range lo n i hi =>
    rw [List.getElem?_eq_none_iff] at hd
    simp at hd
    exact wpAny_pyNext_range_end F.hnd hi (by omega) fun h' hk => q _ (ok.step (tk := s.toks) hi rfl hfr hw hp hk) (Moved.mv ⟨it, hk, .fields hi rfl⟩)
end Mine



namespace Mine
open PySem PyProof.Rows

noncomputable abbrev Nrm := List Pr → Shared → Prop
noncomputable abbrev Rtn := Value → Shared → Prop
/-- what a block's end means -/
noncomputable def Fin (N : Nrm) (R : Rtn) (P : List Pr) (f : Flow) (s : Shared) : Prop := match f with
  | .next => N P s
  | .ret v => R v s
  | _ => False
/-- a block -/
noncomputable def Blk (X : Cx) (W : List Addr) (ρ : List (Str × Ent)) (sts : List Stmt) (N : Nrm) (R : Rtn) : Prop :=
  ∀ P s, OkP X W P ρ s → wpAny X.M X.A (execs sts X.env) (fun f s' => Fin N R P f s') NoE s
/-- what is left of a block -/
noncomputable def Then (X : Cx) (rest : List Stmt) (N : Nrm) (R : Rtn) (P : List Pr) (s : Shared) : Prop := wpAny X.M X.A (execs rest X.env) (fun f s' => Fin N R P f s') NoE s
/-- one statement -/
noncomputable def Stm (X : Cx) (W : List Addr) (ρ : List (Str × Ent)) (st : Stmt) (N : Nrm) (R : Rtn) : Prop :=
  ∀ P s, OkP X W P ρ s → wpAny X.M X.A (exec st X.env) (fun f s' => Fin N R P f s') NoE s

section
variable {X : Cx} {W : List Addr} {ρ : List (Str × Ent)} {N : Nrm} {R : Rtn}
theorem blk_nil (h : ∀ P s, OkP X W P ρ s → N P s) : Blk X W ρ [] N R := fun P s hs => wpAny_execs_nil (h P s hs)
theorem blk_cons {st : Stmt} {rest : List Stmt} (h : Stm X W ρ st (Then X rest N R) R) : Blk X W ρ (st :: rest) N R := fun P s hs =>
  wpAny_execs_cons (wpAny_mono (h P s hs) (fun f s' q => by
    cases f with
    | next => exact q
    | ret v => exact q
    | _ => exact q.elim) fun _ _ x => x)
theorem then_of {W' : List Addr} {ρ' : List (Str × Ent)} {rest : List Stmt} (h : Blk X W' ρ' rest N R) : ∀ P s, OkP X W' P ρ' s → Then X rest N R P s := fun P s hs => h P s hs
theorem blk_mono {sts : List Stmt} {N' : Nrm} (h : Blk X W ρ sts N R) (k : ∀ P s, N P s → N' P s) : Blk X W ρ sts N' R := fun P s hs =>
  wpAny_mono (h P s hs) (fun f s' q => by
    cases f with
    | next => exact k _ _ q
    | ret v => exact q
    | _ => exact q.elim) fun _ _ x => x

theorem stm_assign {x : Str} {p pos : Pos} {e : Expr} {d : D} {ρ' : List (Str × Ent)} (F : Fine X) (h : Ev X W ρ .s e d) (hp : Put ρ x (.val true d) ρ') (n : ∀ P s, OkP X W P ρ' s → N P s)
    (hs : ∀ env, swapsWith e (some (.Name x p)) pos.line env = pure false := by intro _; rfl) : Stm X W ρ (.Assign [.Name x p] e pos) N R := fun P s ok =>
  wpAny_Assign_Name (wpAny_mono (h s ok.ok) (fun v s₁ k => store_val F (ok.mono k.1) hp k.2 fun s' ok' _ => n P s' ok') fun _ _ x => x) (hs _)

theorem assign {x : Str} {p pos : Pos} {e : Expr} {d : D} {ρ' : List (Str × Ent)} {rest : List Stmt} (F : Fine X) (h : Ev X W ρ .s e d) (hp : Put ρ x (.val true d) ρ') (n : Blk X W ρ' rest N R)
    (hs : ∀ env, swapsWith e (some (.Name x p)) pos.line env = pure false := by intro _; rfl) : Blk X W ρ (.Assign [.Name x p] e pos :: rest) N R :=
  blk_cons (stm_assign F h hp (then_of n) hs)

/-- a new list of ints, from here on changed in place -/
theorem own_ok {P : List Pr} {s s' : Shared} {a : Addr} {ns : List Int} (ok : OkP X W P ρ s) (k : SExt [] s s') (r : Post .f W s.heap (.ref a) s'.heap (.list (ns.map .int))) :
    OkP X (a :: W) P ρ s' ∧ EntOk X.sE.heap (a :: W) s'.heap (some (.ref a)) (.own a ns) ∧ (∀ q ∈ ρ, ∀ b ms, q.2 = .own b ms → b ≠ a) := by
  have hfr : s.heap.get? a = Option.none := r.2 a rfl
  have hE : X.sE.heap.get? a = Option.none := ok.ok.ext.ext.fresh hfr
  obtain ⟨r1, _⟩ := r
  cases r1 with
  | list hl hw hr =>
    rename_i vs
    have hr' : Reps (a :: W) s'.heap vs (ns.map .int) := by
      clear hl hw
      induction ns generalizing vs with
      | nil => cases hr; exact .nil
      | cons n ns ih =>
        cases hr with
        | cons h1 h2 =>
          cases h1 with
          | int i t => exact .cons (.int _ _) (ih h2)
    refine ⟨⟨⟨ok.ok.ext.trans k.wider, ok.ok.nd, fun p hp => ?_, ok.ok.own, fun b hb => ?_⟩, fun p hp => ?_⟩, ⟨rfl, .head _, hE, _, hl, hr'⟩, fun q hq b ms e z => ?_⟩
    · rcases ok.ok.ent p hp with g | ⟨⟨ov, h1, h2⟩, h3⟩
      · exact .inl g
      · refine .inr ⟨⟨ov, h1.keep k.ext.strict, ?_⟩, h3⟩
        obtain ⟨x, ent⟩ := p
        cases ent with
        | un => trivial
        | val b d => obtain ⟨v, e, rr⟩ := h2; exact ⟨v, e, rr.mask k.ext.strict hfr⟩
        | tmp b d =>
          obtain ⟨v, e, rr, ex⟩ := h2
          refine ⟨v, e, ?_, ex⟩
          cases d with
          | list ds => obtain ⟨b, vs, rfl, hl2, hr2⟩ := rr; exact ⟨b, vs, rfl, Mine.Heap.IsList.map hl2 (k.ext.strict b), hr2.mask k.ext.strict hfr⟩
          | _ => exact Rep.mask rr k.ext.strict hfr
        | own b ms => obtain ⟨e, w, f, vs, hl2, hr2⟩ := h2; exact ⟨e, .tail _ w, f, vs, Mine.Heap.IsList.map hl2 (k.ext.strict b), hr2.mask k.ext.strict hfr⟩
        | gl v => cases h2
    · rcases List.mem_cons.mp hb with rfl | hb
      · obtain ⟨_, ho⟩ := hl; exact ⟨_, ho⟩
      · obtain ⟨o, ho⟩ := ok.ok.wal b hb; exact ⟨o, k.ext.strict b o ho⟩
    · have y := ok.prot p hp
      cases p with
      | obj b o =>
        refine ⟨k.ext.strict _ _ y.1, fun z => ?_, y.2.2⟩
        rcases List.mem_cons.mp z with rfl | z
        · have y1 := y.1; rw [hfr] at y1; cases y1
        · exact y.2.1 z
      | reps vs ds => exact Reps.mask y k.ext.strict hfr
    · rcases ok.ok.ent q hq with ⟨v, g, _⟩ | ⟨⟨ov, h1, h2⟩, h3⟩
      · rw [e] at g; cases g
      · rw [e] at h2
        obtain ⟨_, w, _⟩ := h2
        obtain ⟨o, ho⟩ := ok.ok.wal b w
        rw [z, hfr] at ho; cases ho

inductive PutF : List (Str × Ent) → Str → (Ent → List (Str × Ent)) → Prop
  | here {ρ : List (Str × Ent)} {x : Str} {e₀ : Ent} : e₀.rw = true → PutF ((x, e₀) :: ρ) x fun e => (x, e) :: ρ
  | there {ρ : List (Str × Ent)} {x : Str} {f : Ent → List (Str × Ent)} {p : Str × Ent} : PutF ρ x f → PutF (p :: ρ) x fun e => p :: f e
theorem PutF.put {ρ : List (Str × Ent)} {x : Str} {f : Ent → List (Str × Ent)} (h : PutF ρ x f) (e : Ent) : Put ρ x e (f e) := by
  induction h with
  | here hr => exact .here hr
  | there _ ih => exact .there ih
theorem assign_own {x : Str} {p pos : Pos} {e : Expr} {ns : List Int} {rest : List Stmt} {f : Ent → List (Str × Ent)} (F : Fine X) (h : Ev X W ρ .f e (.list (ns.map .int))) (hp : PutF ρ x f) (n : ∀ a, Blk X (a :: W) (f (.own a ns)) rest N R)
    (hs : ∀ env, swapsWith e (some (.Name x p)) pos.line env = pure false := by intro _; rfl) : Blk X W ρ (.Assign [.Name x p] e pos :: rest) N R :=
  blk_cons fun P s ok => wpAny_Assign_Name (wpAny_mono (h s ok.ok) (fun v s₁ k => by
    have r : Rep W s₁.heap v (.list (ns.map .int)) := k.2.1
    obtain ⟨a, rfl⟩ : ∃ a, v = .ref a := by cases r with | list => exact ⟨_, rfl⟩
    obtain ⟨ok', ent, hown⟩ := own_ok ok k.1 k.2
    exact store_ok F ok' (hp.put _) ent (fun b ms z => by cases z; exact hown) fun s' ok'' _ => n a P s' ok'') fun _ _ x => x) (hs _)

theorem stm_aug {x : Str} {p pos : Pos} {op : Operator} {e : Expr} {a b r : Int} {bb : Bool} {l : Lv} {ρ' : List (Str × Ent)} (F : Fine X) (hx : (x, Ent.val bb (.int a)) ∈ ρ) (h : Ev X W ρ l e (.int b)) (hp : Put ρ x (.val true (.int r)) ρ')
    (hop : ∀ (Q : Value → Shared → Prop) (s : Shared) (t u : Tok), (∀ tk tk', Q (.int r tk) { s with toks := tk' }) → wpAny X.M X.A (inplaceOp op (.int a t) (.int b u)) Q NoE s) (n : ∀ P s, OkP X W P ρ' s → N P s) (hn : okName x = true := by decide +kernel) :
    Stm X W ρ (.AugAssign (.Name x p) op e pos) N R := fun P s ok => by
  refine wpAny_AugAssign_Name ?_
  obtain ⟨_, z, _⟩ | ⟨⟨ov, h1, v, rfl, rr⟩, _⟩ := ok.ok.ent _ hx
  · cases z
  refine load1 F.kind h1 ?_ (okName_d hn).2
  refine wpAny_mono (h s ok.ok) (fun w s₁ k => ?_) fun _ _ x => x
  obtain ⟨u, rfl⟩ := repT_int k.2.toT
  cases rr with
  | int _ t => exact hop _ _ _ _ fun tk tk' => store_val F (ok.mono (k.1.trans (sext_toks _ _))) hp (.int _ _) fun s' ok' _ => n P s' ok'
theorem aug_add {x : Str} {p pos : Pos} {e : Expr} {a b : Int} {bb : Bool} {l : Lv} {ρ' : List (Str × Ent)} {rest : List Stmt} (F : Fine X) (hx : (x, Ent.val bb (.int a)) ∈ ρ) (h : Ev X W ρ l e (.int b)) (hp : Put ρ x (.val true (.int (a + b))) ρ') (n : Blk X W ρ' rest N R) (hn : okName x = true := by decide +kernel) :
    Blk X W ρ (.AugAssign (.Name x p) .Add e pos :: rest) N R := blk_cons (stm_aug F hx h hp (fun Q s t u q => iadd_int (q _ _)) (then_of n) hn)
theorem aug_sub {x : Str} {p pos : Pos} {e : Expr} {a b : Int} {bb : Bool} {l : Lv} {ρ' : List (Str × Ent)} {rest : List Stmt} (F : Fine X) (hx : (x, Ent.val bb (.int a)) ∈ ρ) (h : Ev X W ρ l e (.int b)) (hp : Put ρ x (.val true (.int (a - b))) ρ') (n : Blk X W ρ' rest N R) (hn : okName x = true := by decide +kernel) :
    Blk X W ρ (.AugAssign (.Name x p) .Sub e pos :: rest) N R := blk_cons (stm_aug F hx h hp (fun Q s t u q => isub_int (q _ _)) (then_of n) hn)
/-- an own list's item is replaced -/
theorem own_set {P : List Pr} {ρ' : List (Str × Ent)} {s : Shared} {x : Str} {a : Addr} {ns ms : List Int} {h' : Heap} {tk : Nat} (ok : OkP X W P ρ s) (hx : (x, Ent.own a ns) ∈ ρ) (hp : Put ρ x (.own a ms) ρ')
    (hsb : Heap.ExtBut a s.heap h') (hl : ∃ vs, h'.PlainList a vs.toArray ∧ Reps W h' vs (ms.map .int)) : OkP X W P ρ' { s with heap := h', toks := tk } := by
  obtain ⟨_, z, _⟩ | ⟨⟨ov, h1, rfl, w, f, vs, hl0, hr0⟩, fr⟩ := ok.ok.ent _ hx
  · cases z
  have data : ∃ o xs n, s.heap.get? a = some o ∧ o.data = .seq xs n := by obtain ⟨n, ho⟩ := hl0; exact ⟨_, _, n, ho, rfl⟩
  obtain ⟨oa, xs, na, hoa, hda⟩ := data
  have hold : ∀ y ov', Holds1 s.heap X.env y ov' → Holds1 h' X.env y ov' := by
    intro y ov' hh
    rcases hh with ⟨b, m, n, e⟩ | ⟨b, c, e, n⟩
    · refine .inl ⟨b, m, n.extBut hsb fun z => ?_, e⟩
      obtain ⟨o', es, ep, ho', hd', _⟩ := n
      rw [z, hoa] at ho'; cases ho'
      rw [hda] at hd'; cases hd'
    · refine .inr ⟨b, c, e, ?_⟩
      obtain ⟨o', ho', hd'⟩ := n
      refine ⟨o', hsb _ _ (fun z => ?_) ho', hd'⟩
      rw [z, hoa] at ho'; cases ho'
      rw [hda] at hd'; cases hd'
  refine ⟨⟨⟨ok.ok.ext.ext.extBut f hsb, ok.ok.ext.gens, ok.ok.ext.os⟩, by rw [hp.keys]; exact ok.ok.nd, fun p hp' => ?_, fun p hp' p₂ hp₂ a₁ ns' b ms' e1 e2 hne => ?_, fun b hb => ?_⟩, ok.prot.extButW hsb w⟩
  · rcases hp.cases ok.ok.nd p hp' with rfl | ⟨m', hne⟩
    · exact .inr ⟨⟨_, hold _ _ h1, rfl, w, f, hl⟩, fr⟩
    · obtain g | ⟨⟨ov', h2, h3⟩, fr'⟩ := ok.ok.ent _ m'
      · exact .inl g
      · refine .inr ⟨⟨ov', hold _ _ h2, ?_⟩, fr'⟩
        obtain ⟨y, ent⟩ := p
        cases ent with
        | un => trivial
        | val b d => obtain ⟨v, e, rr⟩ := h3; exact ⟨v, e, rr.extBut hsb (.inl w)⟩
        | tmp b d =>
          obtain ⟨v, e, rr, ex⟩ := h3
          refine ⟨v, e, ?_, ex⟩
          cases d with
          | list ds =>
            obtain ⟨b, us, rfl, hl2, hr2⟩ := rr
            refine ⟨b, us, rfl, hl2.extBut hsb fun z => ?_, hr2.extBut hsb (.inl w)⟩
            obtain ⟨o, ho⟩ := ex b rfl
            rw [z, f] at ho; cases ho
          | _ => exact Rep.extBut rr hsb (.inl w)
        | own b ks =>
          obtain ⟨e, w', f', us, hl2, hr2⟩ := h3
          have : b ≠ a := fun z => (ok.ok.own _ m' _ hx b ks a ns rfl rfl hne) z
          exact ⟨e, w', f', us, hl2.extBut hsb this, hr2.extBut hsb (.inl w)⟩
        | gl v => cases h3
  · rcases hp.cases ok.ok.nd p hp' with rfl | ⟨m', hne'⟩
    · rcases hp.cases ok.ok.nd p₂ hp₂ with rfl | ⟨m₂, hne₂⟩
      · exact absurd rfl hne
      · cases e1
        exact ok.ok.own _ hx _ m₂ a ns b ms' rfl e2 hne
    · rcases hp.cases ok.ok.nd p₂ hp₂ with rfl | ⟨m₂, _⟩
      · cases e2
        exact ok.ok.own _ m' _ hx a₁ ns' a ns e1 rfl hne
      · exact ok.ok.own p m' p₂ m₂ a₁ ns' b ms' e1 e2 hne
  · obtain ⟨o, ho⟩ := ok.ok.wal b hb
    by_cases hba : b = a
    · subst hba; obtain ⟨vs, ⟨_, ho'⟩, _⟩ := hl; exact ⟨_, ho'⟩
    · exact ⟨o, hsb b o hba ho⟩

/-- the value of an own list's name -/
theorem own_val {P : List Pr} {s : Shared} {x : Str} {a : Addr} {ns : List Int} (ok : OkP X W P ρ s) (hx : (x, Ent.own a ns) ∈ ρ) : Holds1 s.heap X.env x (some (.ref a)) ∧ ∃ vs, s.heap.PlainList a vs.toArray ∧ Reps W s.heap vs (ns.map .int) := by
  obtain ⟨_, z, _⟩ | ⟨⟨ov, h1, rfl, w, f, vs, hl0, hr0⟩, fr⟩ := ok.ok.ent _ hx
  · cases z
  exact ⟨h1, vs, hl0, hr0⟩
theorem reps_ints_set {h : Heap} {vs : List Value} {ns : List Int} {i : Nat} {v : Int} {t : Tok} (r : Reps W h vs (ns.map .int)) : Reps W h (vs.set i (.int v t)) ((ns.set i v).map .int) := by
  induction ns generalizing vs i with
  | nil => cases r; exact .nil
  | cons n ns ih =>
    cases r with
    | cons a b =>
      cases i with
      | zero => exact .cons (.int _ _) b
      | succ i => exact .cons a (ih b)
theorem reps_ints_any {W' : List Addr} {h h' : Heap} {vs : List Value} {ns : List Int} (r : Reps W h vs (ns.map .int)) : Reps W' h' vs (ns.map .int) := by
  induction ns generalizing vs with
  | nil => cases r; exact .nil
  | cons n ns ih => cases r with | cons a b => cases a; exact .cons (.int _ _) (ih b)
theorem setItem_plain {l : Addr} {items : Array Value} {k : Int} {t : Tok} {v : Value} {s : Shared} {Q : Unit → Shared → Prop} (hp : s.heap.PlainList l items) (h0 : 0 ≤ k) (hfit : k < 2 ^ 63) (hn : k < items.size)
    (hQ : ∀ h', h'.PlainList l (items.setIfInBounds k.toNat v) → Heap.SameBut l s.heap h' → Q () { s with heap := h' }) : wpAny X.M X.A (setItem (.ref l) (.int k t) v) Q NoE s := by
  obtain ⟨n, ho⟩ := id hp
  have hl := hp.isList
  have upd : (s.heap.update l (Obj.mapSeq (·.setIfInBounds k.toNat v))).PlainList l (items.setIfInBounds k.toNat v) := by
    refine ⟨n, ?_⟩
    rw [Heap.get?_update_self _ ho (by simp [Obj.mapSeq, Obj.isFreed])]
    simp [Obj.mapSeq]
  have hget : ∃ y, items[k.toNat]? = some y := ⟨_, Array.getElem?_eq_getElem (show k.toNat < items.size by omega)⟩
  obtain ⟨y, hget⟩ := hget
  unfold setItem
  try with_reducible refine wpAny_holding ?_
  first | refine wpAny_bind (wpAny_pure ?_) | skip
  refine wpAny_bind (wpAny_sequenceKey hl.typeIs (by decide) ?_)
  refine wpAny_bind (wpAny_callSpecial?_slot (name := Str.ofString "__setitem__") hl.typeIs slot_list_setitem (wpAny_call_entry slot_list_setitem hl.typeIs entry_list_setitem ?_ (args_list_setitem _ _ _)))
  show wpAny _ _ (Builtin.List.listSubscript? (.int k t) >>= _) _ _ s
  refine wpAny_bind (wpAny_listSubscript_int (fitsIndex_of h0 hfit) ?_)
  clear hfit
  generalize hj : k.toNat = j at upd hget hQ
  have e : k = Int.ofNat j := by rw [← hj]; exact (Int.toNat_of_nonneg h0).symm
  subst e
  show wpAny _ _ ((seqItemAt l j >>= fun r => pure (r.map (j, ·))) >>= _) _ _ s
  refine wpAny_bind (wpAny_bind (wpAny_seqItemAt ho rfl (wpAny_pure ?_)))
  rw [hget]
  show wpAny _ _ (setSeqItemAt l j v >>= _) _ _ s
  refine wpAny_bind (wpAny_setSeqItemAt ho rfl ?_)
  first
    | exact wpAny_bind (wpAny_pure (wpAny_pure ⟨.none, rfl, wpAny_pure (hQ _ upd (Heap.SameBut.update ..))⟩))
    | exact wpAny_pure ⟨.none, rfl, wpAny_pure (hQ _ upd (Heap.SameBut.update ..))⟩
theorem set_item {P : List Pr} {ρ' : List (Str × Ent)} {s : Shared} {x : Str} {a : Addr} {ns : List Int} {k v : Int} {t u : Tok} {Q : Unit → Shared → Prop} (ok : OkP X W P ρ s) (hx : (x, Ent.own a ns) ∈ ρ) (h0 : 0 ≤ k) (hk : k < ns.length) (hz : ns.length ≤ 1000000)
    (hp : Put ρ x (.own a (ns.set k.toNat v)) ρ') (q : ∀ s', OkP X W P ρ' s' → Q () s') : wpAny X.M X.A (setItem (.ref a) (.int k t) (.int v u)) Q NoE s := by
  obtain ⟨_, vs, hl, hr⟩ := own_val ok hx
  have hn := hr.length
  rw [List.length_map] at hn
  refine setItem_plain hl h0 (by omega) (by rw [List.size_toArray, hn]; exact hk) fun h' hl' hsb => q _ ?_
  refine own_set (tk := s.toks) ok hx hp hsb.extBut ⟨vs.set k.toNat (.int v u), ?_, reps_ints_any (reps_ints_set hr)⟩
  simpa using hl'

/-- x[i] += e -/
theorem aug_item {x : Str} {p tp pos : Pos} {op : Operator} {ei e : Expr} {l l' : Lv} {a : Addr} {ns : List Int} {k y b r : Int} {ρ' : List (Str × Ent)} {rest : List Stmt} (F : Fine X) (hx : (x, Ent.own a ns) ∈ ρ) (hi : Ev X W ρ l ei (.int k)) (h0 : 0 ≤ k) (hy : ns[k.toNat]? = some y) (hz : ns.length ≤ 1000000)
    (h : Ev X W ρ l' e (.int b)) (hop : ∀ (Q : Value → Shared → Prop) (s : Shared) (t u : Tok), (∀ tk tk', Q (.int r tk) { s with toks := tk' }) → wpAny X.M X.A (inplaceOp op (.int y t) (.int b u)) Q NoE s)
    (hp : Put ρ x (.own a (ns.set k.toNat r)) ρ') (n : Blk X W ρ' rest N R) (hn : okName x = true := by decide +kernel)
    (ha : ∀ ov iv new, augStore ei ov iv new = (do holding [new, ov, iv] (setItem ov iv new); release [new, ov, iv] []; pure .next) := by intros; rfl) :
    Blk X W ρ (.AugAssign (.Subscript (.Name x p) ei tp) op e pos :: rest) N R := blk_cons fun P s ok => by
  have hk : k < ns.length := by have := (List.getElem?_eq_some_iff.mp hy).1; omega
  obtain ⟨h1, vs, hl, hr⟩ := own_val ok hx
  refine wpAny_AugAssign_SubscriptAny (wpAny_Name (load1 F.kind h1 ?_ (okName_d hn).2) (okName_d hn).1) ha
  refine wpAny_mono (hi s ok.ok) (fun iv s₁ k₁ => ?_) fun _ _ x => x
  obtain ⟨t, rfl⟩ := repT_int k₁.2.toT
  have ok₁ := ok.mono k₁.1
  obtain ⟨_, vs₁, hl₁, hr₁⟩ := own_val ok₁ hx
  refine getItem_item hl₁ hr₁ (d := .int y) ?_ (by rw [List.length_map]; exact hz) fun old ro => ?_
  · unfold itemAt
    rw [if_pos h0, List.getElem?_map, hy]; rfl
  cases ro with
  | int _ t' =>
    refine wpAny_mono (h s₁ ok₁.ok) (fun bv s₂ k₂ => ?_) fun _ _ x => x
    obtain ⟨u, rfl⟩ := repT_int k₂.2.toT
    refine hop _ _ _ _ fun tk tk' => ?_
    exact set_item (ok₁.mono (k₂.1.trans (sext_toks _ _))) hx h0 hk hz hp fun s' ok' => n P s' ok'

/-- if -/
theorem stm_if {e : Expr} {body orelse : List Stmt} {pos : Pos} {c : Bool} (h : Tst X W ρ e c) (ht : c = true → Blk X W ρ body N R) (hf : c = false → Blk X W ρ orelse N R) : Stm X W ρ (.If e body orelse pos) N R := fun P s ok =>
  wpAny_If (wpAny_mono (h s ok.ok) (fun b s₁ k => by
    obtain ⟨k, rfl⟩ := k
    cases b with
    | true => exact ht rfl P s₁ (ok.mono k)
    | false => exact hf rfl P s₁ (ok.mono k)) fun _ _ x => x)
theorem blk_if {e : Expr} {body orelse rest : List Stmt} {pos : Pos} {c : Bool} (h : Tst X W ρ e c) (ht : c = true → Blk X W ρ body (Then X rest N R) R) (hf : c = false → Blk X W ρ orelse (Then X rest N R) R) : Blk X W ρ (.If e body orelse pos :: rest) N R := blk_cons (stm_if h ht hf)
/-- an if without else that ends the block -/
theorem blk_if_ret {e : Expr} {body rest : List Stmt} {pos : Pos} {c : Bool} (h : Tst X W ρ e c) (ht : c = true → Blk X W ρ body (Then X rest N R) R) (hf : c = false → Blk X W ρ rest N R) : Blk X W ρ (.If e body [] pos :: rest) N R :=
  blk_if h ht fun e => blk_nil fun P s ok => hf e P s ok

theorem blk_ret {l : Lv} {e : Expr} {pos : Pos} {d : D} {rest : List Stmt} (h : Ev X W ρ l e d) (q : ∀ P s v s', OkP X W P ρ s → SExt [] s s' → Post l W s.heap v s'.heap d → R v s') : Blk X W ρ (.Return (some e) pos :: rest) N R := blk_cons fun P s ok =>
  wpAny_Return_some (wpAny_mono (h s ok.ok) (fun v s' k => q P s v s' ok k.1 k.2) fun _ _ x => x)

/-- what a def hands back -/
noncomputable def Ret (X : Cx) (W : List Addr) (l : Lv) (d : D) : Rtn := fun v s' => SExt X.T X.sE s' ∧ Post l W X.sE.heap v s'.heap d
theorem ret_f {e : Expr} {pos : Pos} {d : D} {rest : List Stmt} (h : Ev X W ρ .f e d) : Blk X W ρ (.Return (some e) pos :: rest) N (Ret X W .f d) :=
  blk_ret h fun P s v s' ok k p => ⟨ok.ok.ext.trans k.wider, p.1, fun a e => ok.ok.ext.ext.fresh (p.2 a e)⟩
theorem ret_flat {l : Lv} {e : Expr} {pos : Pos} {d : D} {rest : List Stmt} {W₀ : List Addr} (h : Ev X W ρ l e d) (hd : d.flat = true := by rfl) : Blk X W ρ (.Return (some e) pos :: rest) N (Ret X W₀ .f d) :=
  blk_ret (h.flat (l' := .f) hd) fun P s v s' ok k p => ⟨ok.ok.ext.trans k.wider, by
    obtain ⟨r, _⟩ := p
    cases r <;> first | cases hd | skip
    · exact ⟨.nun, fun _ e => by cases e⟩
    · exact ⟨.bool _, fun _ e => by cases e⟩
    · exact ⟨.int _ _, fun _ e => by cases e⟩
    · exact ⟨.str _ _, fun _ e => by cases e⟩⟩
/-- an own list is handed back -/
theorem ret_own {x : Str} {p pos : Pos} {a : Addr} {ns : List Int} {rest : List Stmt} {W₀ : List Addr} (F : Fine X) (hx : (x, Ent.own a ns) ∈ ρ) (wal : ∀ a ∈ W₀, ∃ o, X.sE.heap.get? a = some o) (hn : okName x = true := by decide +kernel) :
    Blk X W ρ (.Return (some (.Name x p)) pos :: rest) N (Ret X W₀ .f (.list (ns.map .int))) := blk_cons fun P s ok => by
  refine wpAny_Return_some ?_
  obtain ⟨_, z, _⟩ | ⟨⟨ov, h1, rfl, w, f, vs, hl, hr⟩, fr⟩ := ok.ok.ent _ hx
  · cases z
  refine wpAny_Name (load1 F.kind h1 ?_ (okName_d hn).2) (okName_d hn).1
  refine ⟨ok.ok.ext, .list hl (fun z => ?_) (reps_ints_any hr), fun b e => by cases e; exact f⟩
  obtain ⟨o, ho⟩ := wal a z
  rw [f] at ho; cases ho

/-- targets -/
noncomputable def Tgt (X : Cx) (W : List Addr) (ρ : List (Str × Ent)) (t : Expr) (d : D) (ρ' : List (Str × Ent)) : Prop :=
  ∀ P s v, OkP X W P ρ s → Rep W s.heap v d → wpAny X.M X.A (PySem.assign t X.env v) (fun _ s' => OkP X W P ρ' s' ∧ Mv s.heap s'.heap) NoE s
theorem tgt_name {x : Str} {p : Pos} {d : D} {ρ' : List (Str × Ent)} (F : Fine X) (hp : Put ρ x (.val true d) ρ') : Tgt X W ρ (.Name x p) d ρ' := fun P s v ok r =>
  wpAny_assign_Name (store_val F ok hp r fun s' ok' m => ⟨ok', m.mv⟩)

/-- for -/
theorem stm_for {t iter : Expr} {body : List Stmt} {pos : Pos} {ds : List D} (F : Fine X) (σ : Nat → List (Str × Ent)) (h : Src X W ρ iter ds) (h0 : ∀ s, Ok X W ρ s → Ok X W (σ 0) s)
    (turn : ∀ i d, ds[i]? = some d → ∃ ρ', Tgt X W (σ i) t d ρ' ∧ Blk X W ρ' body (fun P s => OkP X W P (σ (i + 1)) s) R) (n : ∀ P s, OkP X W P (σ ds.length) s → N P s)
    (hf : ∀ env x, foldedSetIterable iter env x = pure x := by intro _ _; rfl) (hg : ∀ it v M A E Q (s : Shared), (∃ o vs, s.heap.get? it = some o ∧ o.data = .fields vs ∧ (o.cls = .type "list_iterator" ∨ o.cls = .type "range_iterator")) → Q () s → wpAny M A (letOwnedTupleGo t (.ref it) v) Q E s := by intro _ _ _ _ _ _ _ _ q; exact wpAny_pure q) :
    Stm X W ρ (.For t iter body [] pos) N R := fun P s ok => by
  refine wpAny_For (wpAny_mono (h s ok.ok) (fun v s₁ k₁ => ?_) fun _ _ x => x) (hf _)
  refine it_start F (ok.ok.mono k₁.1) k₁.2 fun it G s₂ k₂ hit hfr => ?_
  have kk := k₁.1.trans k₂
  have ok₂ := ok.mono kk
  have hfE : X.sE.heap.get? it = Option.none := (ok.ok.ext.trans k₁.1.wider).ext.fresh hfr
  have hw : it ∉ W := fun z => by obtain ⟨o, ho⟩ := (ok.ok.mono k₁.1).wal it z; rw [hfr] at ho; cases ho
  have hpP : ∀ o, Pr.obj it o ∉ P := fun o z => by
    have y := (ok.mono k₁.1).prot _ z
    have y1 := y.1
    rw [hfr] at y1; cases y1
  refine codeAny_loop' rfl (fun k s' => ∃ i, k = ds.length + 1 - i ∧ i ≤ ds.length ∧ OkP X W P (σ i) s' ∧ ItOk W s'.heap it G ds i) (fun k s₃ hI => ?_) (ds.length + 1) ⟨0, rfl, Nat.zero_le _, ⟨h0 _ ok₂.ok, ok₂.prot⟩, hit⟩
  obtain ⟨i, rfl, hi, ok₃, hit₃⟩ := hI
  show wpAny _ _ ((forTurn t (.ref it) body [] X.env).onRaise (fun x => do noteFrame x X.env; theTreesLotGoes x)) _ _ s₃
  refine wpAny_onRaise (wpAny_mono (E := NoE) ?_ (fun _ _ x => x) fun _ _ x => x.elim)
  simp only [forTurn]
  refine wpAny_bind (wpAny_standAt (wpAny_bind (wpAny_onRaise ?_)))
  by_cases hlt : i < ds.length
  · have hd : ds[i]? = some ds[i] := by simp [hlt]
    refine wpAny_mono (E := NoE) (it_next F ok₃ hit₃ hd hfE hw hpP (Q := fun r s₄ => ∃ v, r = some v ∧ OkP X W P (σ i) s₄ ∧ ItOk W s₄.heap it G ds (i + 1) ∧ Rep W s₄.heap v ds[i]) fun v s₄ a b c _ => ⟨v, rfl, a, b, c⟩) (fun r s₄ q => ?_) fun _ _ x => x.elim
    obtain ⟨v', rfl, ok₄, hit₄, rv⟩ := q
    obtain ⟨o, vs, ho, hdo⟩ := hit₄.obj
    have hcls : o.cls = .type "list_iterator" ∨ o.cls = .type "range_iterator" := by
      cases hit₄ with
      | list _ _ _ _ _ hi => obtain ⟨o', ho', hc, _⟩ := hi; rw [ho] at ho'; cases ho'; exact .inl hc
      | range hi => have e := ho.symm.trans hi; rw [Option.some.inj e]; exact .inr rfl
    refine wpAny_bind (hg it v' _ _ _ _ _ ⟨o, vs, ho, hdo, hcls⟩ ?_)
    obtain ⟨ρ', htg, hbody⟩ := turn i _ hd
    have ok₅ : OkP X W (.obj it o :: (G ++ P)) (σ i) s₄ := ⟨ok₄.ok, hit₄.allProt ho hw ok₄.prot⟩
    refine wpAny_bind (wpAny_mono (htg _ _ _ ok₅ rv) (fun _ s₅ ok₆ => ?_) fun _ _ x => x)
    refine wpAny_bind (wpAny_mono (hbody _ _ ok₆.1) (fun f s₆ q => ?_) fun _ _ x => x)
    cases f with
    | next =>
      have q' : OkP X W (.obj it o :: (G ++ P)) (σ (i + 1)) s₆ := q
      refine wpAny_pure (.inl ⟨rfl, ds.length + 1 - (i + 1), by omega, i + 1, rfl, hlt, ⟨q'.ok, fun p hp => q'.prot p (.tail _ (List.mem_append.mpr (.inr hp)))⟩, hit₄.prot ho q'.prot⟩)
    | ret v => exact wpAny_pure q
    | brk => exact q.elim
    | cont => exact q.elim
  · have e : i = ds.length := by omega
    subst e
    refine wpAny_mono (E := NoE) (it_end F ok₃ hit₃ (by simp) hfE hw hpP (Q := fun r s₄ => r = Option.none ∧ OkP X W P (σ ds.length) s₄) fun s₄ a _ => ⟨rfl, a⟩) (fun r s₄ q => ?_) fun _ _ x => x.elim
    obtain ⟨rfl, ok₄⟩ := q
    exact wpAny_pure (.inr ⟨rfl, codeAny_block (wpAny_execs_nil (n P s₄ ok₄))⟩)
theorem blk_for {t iter : Expr} {body rest : List Stmt} {pos : Pos} {ds : List D} (F : Fine X) (σ : Nat → List (Str × Ent)) (h : Src X W ρ iter ds) (h0 : ∀ s, Ok X W ρ s → Ok X W (σ 0) s)
    (turn : ∀ i d, ds[i]? = some d → ∃ ρ', Tgt X W (σ i) t d ρ' ∧ Blk X W ρ' body (fun P s => OkP X W P (σ (i + 1)) s) R) (n : Blk X W (σ ds.length) rest N R)
    (hf : ∀ env x, foldedSetIterable iter env x = pure x := by intro _ _; rfl) (hg : ∀ it v M A E Q (s : Shared), (∃ o vs, s.heap.get? it = some o ∧ o.data = .fields vs ∧ (o.cls = .type "list_iterator" ∨ o.cls = .type "range_iterator")) → Q () s → wpAny M A (letOwnedTupleGo t (.ref it) v) Q E s := by intro _ _ _ _ _ _ _ _ q; exact wpAny_pure q) :
    Blk X W ρ (.For t iter body [] pos :: rest) N R := blk_cons (stm_for F σ h h0 turn (then_of n) hf hg)

/-- while, by its turns -/
theorem blk_while {e : Expr} {body rest : List Stmt} {pos : Pos} (F : Fine X) (σ : Nat → List (Str × Ent)) (m : Nat) (h0 : ∀ s, Ok X W ρ s → Ok X W (σ 0) s)
    (turn : ∀ i, i < m → Tst X W (σ i) e true ∧ Blk X W (σ i) body (fun P s => OkP X W P (σ (i + 1)) s) R) (stop : Tst X W (σ m) e false) (n : Blk X W (σ m) rest N R) :
    Blk X W ρ (.While e body [] pos :: rest) N R := blk_cons fun P s ok => by
  refine wpAny_While ?_
  refine codeAny_loop' rfl (fun k s' => ∃ i, k = m - i ∧ i ≤ m ∧ OkP X W P (σ i) s') (fun k s₃ hI => ?_) m ⟨0, rfl, Nat.zero_le _, ⟨h0 _ ok.ok, ok.prot⟩⟩
  obtain ⟨i, rfl, hi, ok₃⟩ := hI
  show wpAny _ _ ((whileTurn e body [] X.env).onRaise (fun x => do noteFrame x X.env; theTreesLotGoes x)) _ _ s₃
  refine wpAny_onRaise (wpAny_mono (E := NoE) ?_ (fun _ _ x => x) fun _ _ x => x.elim)
  simp only [whileTurn]
  by_cases hlt : i < m
  · obtain ⟨ht, hb⟩ := turn i hlt
    refine wpAny_bind (wpAny_mono (ht s₃ ok₃.ok) (fun b s₄ k => ?_) fun _ _ x => x)
    obtain ⟨k, rfl⟩ := k
    refine wpAny_bind (wpAny_mono (hb P s₄ (ok₃.mono k)) (fun f s₅ q => ?_) fun _ _ x => x)
    cases f with
    | next => exact wpAny_pure (.inl ⟨rfl, m - (i + 1), by omega, i + 1, rfl, hlt, q⟩)
    | ret v => exact wpAny_pure q
    | brk => exact q.elim
    | cont => exact q.elim
  · have e : i = m := by omega
    subst e
    refine wpAny_bind (wpAny_mono (stop s₃ ok₃.ok) (fun b s₄ k => ?_) fun _ _ x => x)
    obtain ⟨k, rfl⟩ := k
    exact wpAny_bind (wpAny_execs_nil (wpAny_pure (n P s₄ (ok₃.mono k))))
end
end Mine



namespace Mine
open PySem PyProof.Rows

noncomputable def clos (env : Env) : List (Str × NameKind) → List (Str × Addr) → List (Str × Addr)
  | [], acc => acc
  | (x, k) :: r, acc => if k == .free then clos env r ((x, (env.cells.lookup x).getD 0) :: acc) else clos env r acc
theorem closureFor_clos {env : Env} {scope : Scope} (h : ∀ x, (x, NameKind.free) ∈ scope.names → ∃ c, env.cells.lookup x = some c) : closureFor scope env = pure (clos env scope.names []) := by
  have key : ∀ (names : List (Str × NameKind)) (acc : List (Str × Addr)) (f : Str × NameKind → List (Str × Addr) → Sem (ForInStep (List (Str × Addr)))),
      (∀ n k c, f (n, k) c = if k == .free then (do let a ← cellOf env n; pure (.yield ((n, a) :: c))) else pure (.yield c)) → (∀ x, (x, NameKind.free) ∈ names → ∃ c, env.cells.lookup x = some c) →
      forIn names acc f = pure (clos env names acc) := by
    intro names
    induction names with
    | nil => intro acc f _ _; rfl
    | cons p r ih =>
      intro acc f hf hh
      obtain ⟨x, k⟩ := p
      rw [List.forIn_cons, hf]
      unfold clos
      by_cases hk : (k == NameKind.free) = true
      · rw [if_pos hk, if_pos hk]
        have : k = .free := by simpa using hk
        subst this
        obtain ⟨c, hc⟩ := hh x (.head _)
        have e : cellOf env x = pure c := by unfold cellOf; rw [hc]
        rw [e, hc, pure_bind, pure_bind]
        exact ih _ f hf fun y hy => hh y (.tail _ hy)
      · rw [if_neg hk, if_neg hk, pure_bind]
        exact ih _ f hf fun y hy => hh y (.tail _ hy)
  simp only [closureFor]
  rw [key scope.names [] _ (fun n k c => by cases hk : k == NameKind.free <;> simp [hk]) h]
  rfl
theorem clos_mem {env : Env} : ∀ (names : List (Str × NameKind)) (acc : List (Str × Addr)) (x : Str) (c : Addr), (x, c) ∈ clos env names acc → (x, c) ∈ acc ∨ ((x, NameKind.free) ∈ names ∧ c = (env.cells.lookup x).getD 0)
  | [], _, _, _, h => .inl h
  | (y, k) :: r, acc, x, c, h => by
    unfold clos at h
    split at h
    · rename_i hk
      have : k = .free := by simpa using hk
      subst this
      rcases clos_mem r _ x c h with h | ⟨h1, h2⟩
      · rcases List.mem_cons.mp h with e | h
        · cases e; exact .inr ⟨.head _, rfl⟩
        · exact .inl h
      · exact .inr ⟨.tail _ h1, h2⟩
    · rcases clos_mem r _ x c h with h | ⟨h1, h2⟩
      · exact .inl h
      · exact .inr ⟨.tail _ h1, h2⟩
theorem clos_has {env : Env} : ∀ (names : List (Str × NameKind)) (acc : List (Str × Addr)) (x : Str), ((x, NameKind.free) ∈ names ∨ ∃ c, (x, c) ∈ acc) → ∃ c, (x, c) ∈ clos env names acc
  | [], _, _, h => by
    rcases h with h | h
    · cases h
    · exact h
  | (y, k) :: r, acc, x, h => by
    unfold clos
    split
    · rename_i hk
      refine clos_has r _ x ?_
      rcases h with h | ⟨c, h⟩
      · rcases List.mem_cons.mp h with e | h
        · cases e; exact .inr ⟨_, .head _⟩
        · exact .inl h
      · exact .inr ⟨c, .tail _ h⟩
    · rename_i hk
      refine clos_has r _ x ?_
      rcases h with h | h
      · rcases List.mem_cons.mp h with e | h
        · cases e; simp at hk
        · exact .inl h
      · exact .inr h
theorem clos_lookup {env : Env} {names : List (Str × NameKind)} {x : Str} {c : Addr} (h : (clos env names []).lookup x = some c) : (x, NameKind.free) ∈ names ∧ c = (env.cells.lookup x).getD 0 := by
  rcases clos_mem names [] x c (mem_of_lookup h) with h | h
  · cases h
  · exact h
theorem clos_some {env : Env} {names : List (Str × NameKind)} {x : Str} (h : (x, NameKind.free) ∈ names) : (clos env names []).lookup x = some ((env.cells.lookup x).getD 0) := by
  obtain ⟨c, hc⟩ := clos_has (env := env) names [] x (.inl h)
  obtain ⟨c', hl⟩ := lookup_of_mem hc
  rw [hl, (clos_lookup hl).2]

theorem relabel_mem {env : Env} {names : List (Str × NameKind)} (nd : (names.map (·.1)).Nodup) {x : Str} {k : NameKind} (h : (x, k) ∈ names) :
    (names.map fun (n, k) => if (k == NameKind.free && env.scope.kind == ScopeKind.function && env.kindOf n == some NameKind.cell) then (n, NameKind.cell) else (n, k)).lookup x =
      some (if (k == NameKind.free && env.scope.kind == ScopeKind.function && env.kindOf x == some NameKind.cell) then NameKind.cell else k) := by
  refine nodup_lookup ?_ ?_
  · have : (names.map fun (n, k) => if (k == NameKind.free && env.scope.kind == ScopeKind.function && env.kindOf n == some NameKind.cell) then (n, NameKind.cell) else (n, k)).map (·.1) = names.map (·.1) := by
      rw [List.map_map]
      apply List.map_congr_left
      intro p _
      obtain ⟨n, k⟩ := p
      show (if _ then (n, NameKind.cell) else (n, k)).1 = n
      split <;> rfl
    rw [this]; exact nd
  · have := List.mem_map_of_mem (f := fun (n, k) => if (k == NameKind.free && env.scope.kind == ScopeKind.function && env.kindOf n == some NameKind.cell) then (n, NameKind.cell) else (n, k)) h
    by_cases c : (k == NameKind.free && env.scope.kind == ScopeKind.function && env.kindOf x == some NameKind.cell) = true
    · rw [if_pos c]
      have e : (if (k == NameKind.free && env.scope.kind == ScopeKind.function && env.kindOf x == some NameKind.cell) = true then (x, NameKind.cell) else (x, k)) = (x, NameKind.cell) := if_pos c
      rw [← e]; exact this
    · rw [if_neg c]
      have e : (if (k == NameKind.free && env.scope.kind == ScopeKind.function && env.kindOf x == some NameKind.cell) = true then (x, NameKind.cell) else (x, k)) = (x, k) := if_neg c
      rw [← e]; exact this

/-- tests of a clause -/
noncomputable def TstAll (X : Cx) (W : List Addr) (ρ : List (Str × Ent)) (ifs : List Expr) (c : Bool) : Prop :=
  ∀ s, Ok X W ρ s → wpAny X.M X.A (forIn ifs true fun t r => if r = true then do let ok ← isTrue t X.env (eval t X.env); pure (ForInStep.yield ok) else pure (ForInStep.yield r)) (fun ok s' => SExt [] s s' ∧ ok = c) NoE s
section
variable {X : Cx} {W : List Addr} {ρ : List (Str × Ent)}
theorem tstAll_nil : TstAll X W ρ [] true := fun s hs => by rw [List.forIn_nil]; exact wpAny_pure ⟨.refl .., rfl⟩
/-- the list that is being made -/
noncomputable def AccIs (W : List Addr) (h : Heap) (acc : Addr) (ds : List D) : Prop := RepT W h (.ref acc) (.list ds)

noncomputable def Back (ρ' ρ : List (Str × Ent)) : Prop := ∀ s X W, Ok X W ρ' s → Ok X W ρ s
inductive PutU : List (Str × Ent) → Str → Ent → List (Str × Ent) → Prop
  | here {ρ : List (Str × Ent)} {x : Str} {e : Ent} : PutU ((x, .un) :: ρ) x e ((x, e) :: ρ)
  | there {ρ ρ' : List (Str × Ent)} {x : Str} {e : Ent} {p : Str × Ent} : PutU ρ x e ρ' → PutU (p :: ρ) x e (p :: ρ')
theorem PutU.put {ρ ρ' : List (Str × Ent)} {x : Str} {e : Ent} (h : PutU ρ x e ρ') : Put ρ x e ρ' := by
  induction h with
  | here => exact .here rfl
  | there _ ih => exact .there ih
theorem PutU.back {ρ ρ' : List (Str × Ent)} {x : Str} {e : Ent} (h : PutU ρ x e ρ') (he : e.rw = true) : Back ρ' ρ := by
  have key : ∀ p ∈ ρ, p ∈ ρ' ∨ (p.2 = .un ∧ ∃ e, (p.1, e) ∈ ρ' ∧ e.rw = true) := by
    induction h with
    | here =>
      intro p hp
      rcases List.mem_cons.mp hp with rfl | hp
      · exact .inr ⟨rfl, _, .head _, he⟩
      · exact .inl (.tail _ hp)
    | there _ ih =>
      intro p hp
      rcases List.mem_cons.mp hp with rfl | hp
      · exact .inl (.head _)
      · rcases ih he p hp with h | ⟨h1, e', h2, h3⟩
        · exact .inl (.tail _ h)
        · exact .inr ⟨h1, e', .tail _ h2, h3⟩
  intro s X W ok
  exact ok.forget key (by rw [← h.put.keys]; exact ok.nd)

/-- a masked list is grown -/
theorem OkP.grow {P : List Pr} {s : Shared} {a : Addr} {h' : Heap} {tk : Nat} (ok : OkP X W P ρ s) (w : a ∈ W) (f : X.sE.heap.get? a = Option.none) (hno : ∀ p ∈ ρ, ∀ ns, p.2 ≠ .own a ns) {vs : List Value} (hl : s.heap.PlainList a vs.toArray)
    (hsb : Heap.ExtBut a s.heap h') (hth : ∃ o, h'.get? a = some o) : OkP X W P ρ { s with heap := h', toks := tk } := by
  obtain ⟨oa, hoa, _, na, hda⟩ := hl.isList
  have hold : ∀ y ov', Holds1 s.heap X.env y ov' → Holds1 h' X.env y ov' := by
    intro y ov' hh
    rcases hh with ⟨b, m, n, e⟩ | ⟨b, c, e, n⟩
    · refine .inl ⟨b, m, n.extBut hsb fun z => ?_, e⟩
      obtain ⟨o', es, ep, ho', hd', _⟩ := n
      rw [z, hoa] at ho'; cases ho'
      rw [hda] at hd'; cases hd'
    · refine .inr ⟨b, c, e, ?_⟩
      obtain ⟨o', ho', hd'⟩ := n
      refine ⟨o', hsb _ _ (fun z => ?_) ho', hd'⟩
      rw [z, hoa] at ho'; cases ho'
      rw [hda] at hd'; cases hd'
  refine ⟨⟨⟨ok.ok.ext.ext.extBut f hsb, ok.ok.ext.gens, ok.ok.ext.os⟩, ok.ok.nd, fun p hp => ?_, ok.ok.own, fun b hb => ?_⟩, ok.prot.extButW hsb w⟩
  · obtain g | ⟨⟨ov', h2, h3⟩, fr'⟩ := ok.ok.ent _ hp
    · exact .inl g
    · refine .inr ⟨⟨ov', hold _ _ h2, ?_⟩, fr'⟩
      have hn := hno p hp
      obtain ⟨y, ent⟩ := p
      cases ent with
      | un => trivial
      | val b d => obtain ⟨v, e, rr⟩ := h3; exact ⟨v, e, rr.extBut hsb (.inl w)⟩
      | tmp b d =>
        obtain ⟨v, e, rr, ex⟩ := h3
        refine ⟨v, e, ?_, ex⟩
        cases d with
        | list ds =>
          obtain ⟨b, us, rfl, hl2, hr2⟩ := rr
          refine ⟨b, us, rfl, hl2.extBut hsb fun z => ?_, hr2.extBut hsb (.inl w)⟩
          obtain ⟨o, ho⟩ := ex b rfl
          rw [z, f] at ho; cases ho
        | _ => exact Rep.extBut rr hsb (.inl w)
      | own b ks =>
        obtain ⟨e, w', f', us, hl2, hr2⟩ := h3
        have : b ≠ a := fun z => hn ks (by rw [z])
        exact ⟨e, w', f', us, hl2.extBut hsb this, hr2.extBut hsb (.inl w)⟩
      | gl v => cases h3
  · obtain ⟨o, ho⟩ := ok.ok.wal b hb
    by_cases hba : b = a
    · subst hba; exact hth
    · exact ⟨o, hsb b o hba ho⟩

/-- what stands within a clause -/
noncomputable def inner (elt : Expr) (gens : List Comprehension) (e : Expr) (acc : Value) (env : Env) (j : Nat) : Sem Unit := match gens[j]? with
  | some g' => do
    let x ← eval g'.iter env
    standAt g'.iter.pos
    let x ← if g'.is_async != 0 then foldedIterable g'.iter x else foldedSetIterable g'.iter env x
    let _ ← runOwn (.compStart e j (← holding [x] (if g'.is_async != 0 then asyncIter x else pyIter x)) acc env) env
  | Option.none => do let _ ← call (.builtin "list.append") [acc, ← eval elt env]
theorem compTurn_list (elt : Expr) (gens : List Comprehension) (scope : Scope) (pos : Pos) (j : Nat) (it acc : Value) (env : Env) (t iter : Expr) (ifs : List Expr) (hg : gens[j]? = some ⟨t, iter, ifs, 0⟩) :
    compTurn (.ListComp elt gens scope pos) j it acc env = (standAt iter.pos >>= fun _ => pyNext it >>= fun r => match r with
      | Option.none => pure (.done .next)
      | some v => letOwnedTupleGo t it v >>= fun _ => PySem.assign t env v >>= fun _ =>
        (forIn ifs true fun c r => if r = true then do let ok ← isTrue c env (eval c env); pure (ForInStep.yield ok) else pure (ForInStep.yield r)) >>= fun ok =>
          if ok = true then inner elt gens (.ListComp elt gens scope pos) acc env (j + 1) >>= fun _ => again (.compLoop (.ListComp elt gens scope pos) j it acc env)
          else again (.compLoop (.ListComp elt gens scope pos) j it acc env)) := by
  unfold compTurn
  dsimp only
  rw [hg]
  dsimp only
  simp only [bne_self_eq_false, Bool.false_eq_true, if_false]
  congr 1
  funext _
  congr 1
  funext r
  cases r with
  | none => rfl
  | some v =>
    dsimp only
    congr 1
    funext _
    congr 1
    funext _
    congr 1
    funext ok
    cases ok with
    | false => rfl
    | true =>
      simp only [if_true]
      unfold inner
      cases gens[j + 1]? with
      | none => rfl
      | some g =>
        dsimp only
        cases h : (g.is_async != 0) with
        | true => simp only [if_true, bind_assoc, pure_bind]
        | false => simp only [Bool.false_eq_true, if_false, bind_assoc, pure_bind]

noncomputable def NoOwn (ρ : List (Str × Ent)) : Prop := ∀ p ∈ ρ, ∀ a ns, p.2 ≠ .own a ns
theorem PutU.noOwn {ρ ρ' : List (Str × Ent)} {x : Str} {e : Ent} (h : PutU ρ x e ρ') (he : ∀ a ns, e ≠ .own a ns) (n : NoOwn ρ) : NoOwn ρ' := by
  induction h with
  | here =>
    intro p hp
    rcases List.mem_cons.mp hp with rfl | hp
    · exact he
    · exact n p (.tail _ hp)
  | there _ ih =>
    intro p hp
    rcases List.mem_cons.mp hp with rfl | hp
    · exact n _ (.head _)
    · exact ih he (fun q hq => n q (.tail _ hq)) p hp
theorem LayOf.noOwn {B : Base} {ρp ρ : List (Str × Ent)} {ns : List (Str × NameKind)} (h : LayOf B ρp ns ρ) : NoOwn ρ := by
  intro p hp a ns e
  rcases h.cases p hp with ⟨hu, _⟩ | ⟨_, e', _, _, he⟩ | ⟨_, v, hv, _⟩
  · rw [hu] at e; cases e
  · rw [he] at e; exact absurd e (Ent.ro_own _ _ _)
  · rw [hv] at e; cases e
structure TgtC (X : Cx) (W : List Addr) (ρ : List (Str × Ent)) (t : Expr) (d : D) (ρ' : List (Str × Ent)) : Prop where
  tgt : Tgt X W ρ t d ρ'
  back : Back ρ' ρ
  noOwn : NoOwn ρ → NoOwn ρ'
theorem tgtC_name {x : Str} {p : Pos} {d : D} {ρ' : List (Str × Ent)} (F : Fine X) (hp : PutU ρ x (.val true d) ρ') : TgtC X W ρ (.Name x p) d ρ' :=
  ⟨tgt_name F hp.put, hp.back rfl, hp.noOwn fun _ _ e => by cases e⟩

/-- what is run within -/
noncomputable def InnerOk (X : Cx) (W : List Addr) (acc : Addr) (elt : Expr) (gens : List Comprehension) (e : Expr) (j : Nat) (ρ : List (Str × Ent)) (out : List D) : Prop :=
  ∀ P s ds, OkP X W P ρ s → AccIs W s.heap acc ds → ds.length + out.length ≤ 1000000 → wpAny X.M X.A (inner elt gens e (.ref acc) X.env j) (fun _ s' => OkP X W P ρ s' ∧ AccIs W s'.heap acc (ds ++ out)) NoE s
structure AccAt (X : Cx) (W : List Addr) (acc : Addr) : Prop where
  mem : acc ∈ W
  fresh : X.sE.heap.get? acc = Option.none

theorem inner_emit {acc : Addr} {elt : Expr} {gens : List Comprehension} {e : Expr} {j : Nat} {v : D} (F : Fine X) (ac : AccAt X W acc) (no : NoOwn ρ) (hg : gens[j]? = Option.none) (h : Ev X W ρ .s elt v) : InnerOk X W acc elt gens e j ρ [v] := fun P s ds ok ha hz => by
  unfold inner
  rw [hg]
  show wpAny _ _ (do let x ← eval elt X.env; let _ ← call (.builtin "list.append") [.ref acc, x]; pure ()) _ _ s
  refine wpAny_bind (wpAny_mono (h s ok.ok) (fun x s₁ k => wpAny_bind ?_) fun _ _ x => x)
  obtain ⟨a, vs, e, hl, hr⟩ := ha.ext k.1.ext
  cases e
  have ok₁ := ok.mono k.1
  have hn := hr.length
  simp at hz
  refine wpAny_list_append_plain hl (fun h' hl' hsb => wpAny_pure ?_) (by rw [List.size_toArray, hn, sizeLine_eq]; omega)
  have hth : ∃ o, h'.get? acc = some o := by obtain ⟨_, ho⟩ := hl'; exact ⟨_, ho⟩
  refine ⟨ok₁.grow (tk := s₁.toks) ac.mem ac.fresh (fun p hp ns => no p hp acc ns) hl hsb.extBut hth, acc, vs ++ [x], rfl, by simpa using hl', ?_⟩
  exact (hr.extBut hsb.extBut (.inl ac.mem)).append (.cons (Rep.extBut k.2 hsb.extBut (.inl ac.mem)) .nil)

theorem comp_loop {acc : Addr} {elt : Expr} {gens : List Comprehension} {scope : Scope} {pos : Pos} {j : Nat} {t iter : Expr} {ifs : List Expr} (hg : gens[j]? = some ⟨t, iter, ifs, 0⟩) {α : Type} {xs : List α} {φ : α → D} {out : α → List D} (F : Fine X) (no : NoOwn ρ)
    (turn : ∀ x ∈ xs, ∃ ρ' c, TgtC X W ρ t (φ x) ρ' ∧ TstAll X W ρ' ifs c ∧ (c = true → NoOwn ρ' → InnerOk X W acc elt gens (.ListComp elt gens scope pos) (j + 1) ρ' (out x)) ∧ (c = false → out x = []))
    (hgo : ∀ it v M A E Q (s : Shared), (∃ o vs, s.heap.get? it = some o ∧ o.data = .fields vs ∧ (o.cls = .type "list_iterator" ∨ o.cls = .type "range_iterator")) → Q () s → wpAny M A (letOwnedTupleGo t (.ref it) v) Q E s)
    {P : List Pr} {s : Shared} {it : Addr} {G : List Pr} {ds : List D} (ok : OkP X W P ρ s) (hit : ItOk W s.heap it G (xs.map φ) 0) (hfr : X.sE.heap.get? it = Option.none) (hw : it ∉ W) (hp : ∀ o, Pr.obj it o ∉ P)
    (ha : AccIs W s.heap acc ds) (hz : ds.length + (xs.flatMap out).length ≤ 1000000) :
    codeAny X.M X.A (.compLoop (.ListComp elt gens scope pos) j (.ref it) (.ref acc) X.env) (fun r s' => r = .ok .next ∧ OkP X W P ρ s' ∧ AccIs W s'.heap acc (ds ++ xs.flatMap out)) s := by
  refine codeAny_loop rfl (fun k s' => ∃ i, k = xs.length + 1 - i ∧ i ≤ xs.length ∧ OkP X W P ρ s' ∧ ItOk W s'.heap it G (xs.map φ) i ∧ AccIs W s'.heap acc (ds ++ (xs.take i).flatMap out)) (fun k s₃ hI => ?_) (xs.length + 1) ⟨0, rfl, Nat.zero_le _, ok, hit, by simpa using ha⟩
  obtain ⟨i, rfl, hi, ok₃, hit₃, ha₃⟩ := hI
  show wpAny _ _ ((compTurn (.ListComp elt gens scope pos) j (.ref it) (.ref acc) X.env).onRaise (fun x => do noteFrame x X.env; theTreesLotGoes x)) _ _ s₃
  refine wpAny_onRaise (wpAny_mono (E := NoE) ?_ (fun _ _ x => x) fun _ _ x => x.elim)
  rw [compTurn_list _ _ _ _ _ _ _ _ _ _ _ hg]
  refine wpAny_bind (wpAny_standAt (wpAny_bind ?_))
  by_cases hlt : i < xs.length
  · have hd : (xs.map φ)[i]? = some (φ xs[i]) := by simp [hlt]
    refine it_next F ok₃ hit₃ hd hfr hw hp fun v s₄ ok₄ hit₄ rv mv₄ => ?_
    have ha₄ := mv₄ _ _ _ ha₃
    obtain ⟨o, vs, ho, hdo⟩ := hit₄.obj
    have hcls : o.cls = .type "list_iterator" ∨ o.cls = .type "range_iterator" := by
      generalize xs.map φ = zs at hit₄
      cases hit₄ with
      | list _ _ _ _ _ hi => obtain ⟨o', ho', hc, _⟩ := hi; rw [ho] at ho'; cases ho'; exact .inl hc
      | range hi => have e := ho.symm.trans hi; rw [Option.some.inj e]; exact .inr rfl
    refine wpAny_bind (hgo it v _ _ _ _ _ ⟨o, vs, ho, hdo, hcls⟩ ?_)
    obtain ⟨ρ', c, tg, tst, hin, hout⟩ := turn xs[i] (List.getElem_mem hlt)
    have ok₅ : OkP X W (.obj it o :: (G ++ P)) ρ s₄ := ⟨ok₄.ok, hit₄.allProt ho hw ok₄.prot⟩
    refine wpAny_bind (wpAny_mono (tg.tgt _ _ _ ok₅ rv) (fun _ s₅ h₅ => ?_) fun _ _ x => x)
    obtain ⟨ok₆, mv₅⟩ := h₅
    have ha₅ := mv₅ _ _ _ ha₄
    refine wpAny_bind (wpAny_mono (tst s₅ ok₆.ok) (fun b s₆ k => ?_) fun _ _ x => x)
    obtain ⟨k, rfl⟩ := k
    have ok₇ := ok₆.mono k
    have ha₆ := ha₅.ext k.ext
    have fin : ∀ s₇, OkP X W (.obj it o :: (G ++ P)) ρ' s₇ → AccIs W s₇.heap acc (ds ++ (xs.take i).flatMap out ++ out xs[i]) → ∃ m, m < xs.length + 1 - i ∧ ∃ i', m = xs.length + 1 - i' ∧ i' ≤ xs.length ∧ OkP X W P ρ s₇ ∧ ItOk W s₇.heap it G (xs.map φ) i' ∧ AccIs W s₇.heap acc (ds ++ (xs.take i').flatMap out) := fun s₇ ok₈ ha₈ => by
      refine ⟨xs.length + 1 - (i + 1), by omega, i + 1, rfl, hlt, ⟨tg.back _ _ _ ok₈.ok, fun p hp => ok₈.prot p (.tail _ (List.mem_append.mpr (.inr hp)))⟩, hit₄.prot ho ok₈.prot, ?_⟩
      have e : (xs.take (i + 1)).flatMap out = (xs.take i).flatMap out ++ out xs[i] := by
        rw [List.take_add_one, List.flatMap_append]
        simp [hlt]
      rw [e, ← List.append_assoc]
      exact ha₈
    cases b with
    | true =>
      simp only [if_true]
      have hlen : (ds ++ (xs.take i).flatMap out).length + (out xs[i]).length ≤ 1000000 := by
        have e : ((xs.take i).flatMap out).length + (out xs[i]).length ≤ (xs.flatMap out).length := by
          have e1 : xs.flatMap out = (xs.take (i + 1)).flatMap out ++ (xs.drop (i + 1)).flatMap out := by rw [← List.flatMap_append, List.take_append_drop]
          have e2 : (xs.take (i + 1)).flatMap out = (xs.take i).flatMap out ++ out xs[i] := by
            rw [List.take_add_one, List.flatMap_append]
            simp [hlt]
          rw [e1, e2, List.length_append, List.length_append]; omega
        rw [List.length_append]; omega
      refine wpAny_bind (wpAny_mono (hin rfl (tg.noOwn no) _ _ _ ok₇ ha₆ hlen) (fun _ s₇ h₇ => wpAny_pure ⟨rfl, fin s₇ h₇.1 h₇.2⟩) fun _ _ x => x)
    | false =>
      simp only [Bool.false_eq_true, if_false]
      exact wpAny_pure ⟨rfl, fin s₆ ok₇ (by rw [hout rfl, List.append_nil]; exact ha₆)⟩
  · have e : i = xs.length := by omega
    subst e
    refine it_end F ok₃ hit₃ (by simp) hfr hw hp fun s₄ ok₄ mv₄ => ?_
    refine wpAny_pure ⟨rfl, ok₄, ?_⟩
    have := mv₄ _ _ _ ha₃
    rw [List.take_length] at this
    exact this

theorem comp_start {acc : Addr} {elt : Expr} {gens : List Comprehension} {scope : Scope} {pos : Pos} {j : Nat} {t iter : Expr} {ifs : List Expr} (hg : gens[j]? = some ⟨t, iter, ifs, 0⟩) {s : Shared} {it : Addr} {G : List Pr} {ds : List D} {i : Nat} {R : Result → Shared → Prop} (hit : ItOk W s.heap it G ds i)
    (h : codeAny X.M X.A (.compLoop (.ListComp elt gens scope pos) j (.ref it) (.ref acc) X.env) R s) : codeAny X.M X.A (.compStart (.ListComp elt gens scope pos) j (.ref it) (.ref acc) X.env) R s := by
  refine codeAny_of_tree ?_
  show wpAny _ _ ((compStart (.ListComp elt gens scope pos) j (.ref it) (.ref acc) X.env).onRaise (fun x => do noteFrame x X.env; standAt theWindowsPlace)) _ _ s
  refine wpAny_onRaise (wpAny_mono (E := NoE) ?_ (fun _ _ x => x) fun _ _ x => x.elim)
  unfold compStart
  have hc : (clausesOf (.ListComp elt gens scope pos))[j]? = some ⟨t, iter, ifs, 0⟩ := hg
  rw [hc]
  show wpAny _ _ (ask >>= _) _ _ s
  refine wpAny_bind (wpAny_askSetting (wpAny_ite ?_))
  split
  · first
      | exact wpAny_bind (wpAny_pure (wpAny_pure (And.intro rfl h)))
      | exact wpAny_pure (And.intro rfl h)
  · have hp : wpAny X.M X.A (pyIter (.ref it)) (fun v s' => v = .ref it ∧ s' = s) NoE s := by
      cases hit with
      | list _ _ _ _ _ hi => exact wpAny_pyIter_listiter hi ⟨rfl, rfl⟩
      | range hi => exact wpAny_pyIter_rangeiter hi ⟨rfl, rfl⟩
    have fin : wpAny X.M X.A (pyIter (.ref it) >>= fun v => again (.compLoop (.ListComp elt gens scope pos) j v (.ref acc) X.env)) (fun fin s' => match fin with
      | .done f => R (.ok f) s'
      | .again c' => c'.quiet = true ∧ codeAny X.M X.A c' R s') NoE s :=
      wpAny_bind (wpAny_mono hp (fun v s' q => by obtain ⟨rfl, rfl⟩ := q; exact wpAny_pure (And.intro rfl h)) fun _ _ x => x)
    first
      | exact wpAny_bind (wpAny_rule (wpAny_bind (wpAny_standAt fin)))
      | (refine wpAny_bind (wpAny_rule ?_); show wpAny _ _ (standAt iter.pos >>= _) _ _ s; exact wpAny_bind (wpAny_standAt fin))

end
end Mine



namespace Mine
open PySem PyProof.Rows

/-- the frame of a comprehension -/
theorem env_comp {X : Cx} {W : List Addr} {ρ ρc : List (Str × Ent)} {s₂ s₃ : Shared} {scope : Scope} {acc : Addr} {A' : Around} {Q : Env → Shared → Prop} (F : Fine X) (hs₂ : Ok X W ρ s₂) (k : SExt [] s₂ s₃) (hacc : s₂.heap.get? acc = Option.none) (hacc' : ∃ o, s₃.heap.get? acc = some o)
    (nd : (scope.names.map (·.1)).Nodup) (hk : scope.kind = .function) (hκ : ∀ x, (x, NameKind.free) ∈ scope.names → x ∈ X.κ) (lo : LayOf X.B ρ scope.names ρc)
    (q : ∀ env s', env.locals = s₃.heap.objs.size →
      Fine ⟨X.B, X.A, { env with scope := relabel scope X.env }, s₂, X.n, [], closable scope.names⟩ →
      OkP ⟨X.B, X.A, { env with scope := relabel scope X.env }, s₂, X.n, [], closable scope.names⟩ (acc :: W) [] ρc s' → (∀ b o, s₃.heap.get? b = some o → s'.heap.get? b = some o) → Q env s') :
    wpAny X.M A' (newFunctionEnv scope X.env.globals (clos X.env scope.names []) [] X.env.qual Option.none .none (some X.env)) Q NoE s₃ := by
  have hs₃ := hs₂.mono k
  have hbase : Ext X.B.T X.B.h₁ s₂.heap := Ok.base (X := X) F hs₂
  have cellOf' : ∀ x, (x, NameKind.free) ∈ scope.names → ∃ c ov, X.env.cells.lookup x = some c ∧ s₃.heap.IsCell c ov ∧ ∀ e, (x, e) ∈ ρ → e.known = true → ∃ v, ov = some v ∧ EntOk s₂.heap (acc :: W) s₃.heap (some v) e.ro := by
    intro x hx
    obtain ⟨e₀, hm₀, hkn₀⟩ := lo.free_mem x hx
    obtain ⟨v₀, z, _⟩ | ⟨⟨ov, h1, h2⟩, _⟩ := hs₃.ent _ hm₀
    · have z' : e₀ = .gl v₀ := z
      rw [z'] at hkn₀; cases hkn₀
    have kd := F.kd x (hκ x hx)
    rcases h1 with ⟨a, _⟩ | ⟨a, c, e, n⟩
    · have a' : X.env.kindOf x = some .local := a
      rw [a'] at kd; rcases kd with z | z <;> cases z
    · refine ⟨c, ov, e, n, fun e₁ hm₁ hkn₁ => ?_⟩
      have he : e₁ = e₀ := nodup_unique hs₃.nd hm₁ hm₀
      subst he
      have msk : ∀ {v : Value} {d : D}, Rep W s₂.heap v d → Rep (acc :: W) s₃.heap v d := fun r => r.mask k.ext.strict hacc
      obtain ⟨v₀, z, _⟩ | ⟨⟨ov₂, h1₂, h2₂⟩, _⟩ := hs₂.ent _ hm₀
      · have z' : e₁ = .gl v₀ := z
        rw [z'] at hkn₀; cases hkn₀
      have same : ov₂ = ov := by
        rcases h1₂ with ⟨a', _⟩ | ⟨_, c', e', n'⟩
        · have a'' : X.env.kindOf x = some .local := a'
          rw [a''] at kd; rcases kd with z | z <;> cases z
        · rw [e] at e'; cases e'
          obtain ⟨o, ho, hd⟩ := n'
          obtain ⟨o', ho', hd'⟩ := n
          have := k.ext.strict _ _ ho
          rw [this] at ho'; cases ho'
          rw [hd] at hd'; cases hd'; rfl
      subst same
      cases e₁ with
      | un => cases hkn₀
      | gl v => cases hkn₀
      | val b d =>
        obtain ⟨v, e, r⟩ := h2₂
        exact ⟨v, e, v, rfl, msk r⟩
      | tmp b d =>
        obtain ⟨v, e, r, ex⟩ := h2₂
        refine ⟨v, e, v, rfl, ?_, fun b' e' => ?_⟩
        · cases d with
          | list ds =>
            obtain ⟨a', vs, rfl, hl, hr⟩ := r
            exact ⟨a', vs, rfl, Mine.Heap.IsList.map hl (k.ext.strict a'), hr.mask k.ext.strict hacc⟩
          | _ => exact msk r
        · obtain ⟨o, ho⟩ := ex b' e'
          exact hs₂.ext.ext.there b' o ho
      | own a' ns =>
        obtain ⟨e, w, f, vs, hl, hr⟩ := h2₂
        refine ⟨_, e, _, rfl, ⟨a', vs, rfl, Mine.Heap.IsList.map hl (k.ext.strict a'), reps_ints_any hr⟩, fun b' e' => ?_⟩
        cases e'
        obtain ⟨_, ho⟩ := hl
        exact ⟨_, ho⟩
  simp only [newFunctionEnv, Option.isSome_some, if_true]
  refine wpAny_bind (wpAny_alloc ?_)
  refine wpAny_bind (wpAny_layCells _ (fun name kind cells => by cases hkc : kind == NameKind.cell <;> simp [hkc]) _ _ _ _ ?_)
  rw [show ({ s₃ with heap := s₃.heap.push { cls := .type "dict", data := .dict #[] } } : Shared).heap.objs.size = s₃.heap.objs.size + 1 from Heap.size_push ..]
  have clo_of : ∀ x c, (clos X.env scope.names []).lookup x = some c → (x, NameKind.free) ∈ scope.names ∧ X.env.cells.lookup x = some c := fun x c h => by
    obtain ⟨h1, h2⟩ := clos_lookup h
    obtain ⟨c', _, e, _⟩ := cellOf' x h1
    rw [e] at h2 ⊢
    exact ⟨h1, by rw [h2]; rfl⟩
  have la := laid1 (h := s₃.heap) (names := scope.names) (closure := clos X.env scope.names []) nd (.type "dict")
    (fun x y c h1 h2 => F.cells x y c (clo_of x c h1).2 (clo_of y c h2).2)
    (fun x c h1 => by
      obtain ⟨c', ov, e, n, _⟩ := cellOf' x (clo_of x c h1).1
      rw [(clo_of x c h1).2] at e; cases e
      obtain ⟨o, ho, _⟩ := n; exact ⟨o, ho⟩)
  generalize hcs : cellsFrom (s₃.heap.objs.size + 1) scope.names (clos X.env scope.names []) = cells at la ⊢
  generalize henv : ({ scope := scope, locals := s₃.heap.objs.size, globals := X.env.globals, cells := cells, qual := X.env.qual, func := Option.none, code := X.env.code, frame := X.env.frame, builtins := X.env.builtins } : Env) = env
  have elo : env.locals = s₃.heap.objs.size := by rw [← henv]
  have ece : env.cells = cells := by rw [← henv]
  have kk : ∀ x k, (x, k) ∈ scope.names → Env.kindOf { env with scope := relabel scope X.env } x = some (if (k == NameKind.free && X.env.scope.kind == ScopeKind.function && X.env.kindOf x == some NameKind.cell) then NameKind.cell else k) :=
    fun x k h => relabel_mem nd h
  have kf : ∀ x, (x, NameKind.free) ∈ scope.names → Env.kindOf { env with scope := relabel scope X.env } x = some .cell ∨ Env.kindOf { env with scope := relabel scope X.env } x = some .free := fun x h => by
    rw [kk x _ h]
    split
    · exact .inl rfl
    · exact .inr rfl
  have F' : Fine ⟨X.B, X.A, { env with scope := relabel scope X.env }, s₂, X.n, [], closable scope.names⟩ :=
    ⟨hk, by rw [← henv]; exact F.globals, by rw [← henv]; exact F.builtins, hbase, (fun _ h => nomatch h), (fun x hx => by
      rcases closable_mem hx with h | h
      · exact .inl (kk x _ h)
      · exact kf x h), F.hnd, F.dep, F.uni, fun x y c h1 h2 => la.inj x y c (by rw [← ece]; exact h1) (by rw [← ece]; exact h2)⟩
  have ok : OkP ⟨X.B, X.A, { env with scope := relabel scope X.env }, s₂, X.n, [], closable scope.names⟩ (acc :: W) [] ρc { s₃ with heap := _, toks := s₃.toks } :=
    ok_new (X := ⟨X.B, X.A, { env with scope := relabel scope X.env }, s₂, X.n, [], closable scope.names⟩) (s₃ := s₃) k nd la lo elo ece (fun x h => kk x _ h) (fun x h => kk x _ h) (fun x h => kk x _ h) kf
      (fun x e hm hkn hx => by
        obtain ⟨c, ov, e', n, r⟩ := cellOf' x hx
        obtain ⟨v, rfl, r'⟩ := r e hm hkn
        exact ⟨c, v, by rw [clos_some hx, e']; rfl, n, r'⟩)
      (fun a ha => by
        rcases List.mem_cons.mp ha with rfl | ha
        · exact hacc'
        · exact hs₃.wal a ha) fun p hp => (nomatch hp)
  refine wpAny_bind ?_
  rw [List.forIn_nil]
  exact wpAny_pure (wpAny_pure (q env _ elo F' ok la.keep))

section
variable {X : Cx} {W : List Addr} {ρ : List (Str × Ent)}
/-- a comprehension -/
theorem comp_gen {elt : Expr} {t iter : Expr} {ifs : List Expr} {rest : List Comprehension} {scope : Scope} {pos : Pos} {α : Type} {xs : List α} {φ : α → D} {out : α → List D} {ρc : List (Str × Ent)} (F : Fine X)
    (nd : (scope.names.map (·.1)).Nodup) (hk : scope.kind = .function) (hκ : ∀ x, (x, NameKind.free) ∈ scope.names → x ∈ X.κ) (hloc : ∃ x, (x, NameKind.local) ∈ scope.names) (lo : LayOf X.B ρ scope.names ρc) (src : Src X W ρ iter (xs.map φ))
    (turn : ∀ X' W' acc, X'.B = X.B → X'.n = X.n → X'.κ = closable scope.names → Fine X' → AccAt X' W' acc → ∀ x ∈ xs, ∃ ρ' c, TgtC X' W' ρc t (φ x) ρ' ∧ TstAll X' W' ρ' ifs c ∧
      (c = true → NoOwn ρ' → InnerOk X' W' acc elt (⟨t, iter, ifs, 0⟩ :: rest) (.ListComp elt (⟨t, iter, ifs, 0⟩ :: rest) scope pos) 1 ρ' (out x)) ∧ (c = false → out x = []))
    (hz : (xs.flatMap out).length ≤ 1000000)
    (hf : ∀ env x, foldedSetIterable iter env x = pure x)
    (hgo : ∀ it v M A E Q (s : Shared), (∃ o vs, s.heap.get? it = some o ∧ o.data = .fields vs ∧ (o.cls = .type "list_iterator" ∨ o.cls = .type "range_iterator")) → Q () s → wpAny M A (letOwnedTupleGo t (.ref it) v) Q E s)
    {use : Option (Value → Sem Unit)} {s : Shared} {Q : Value → Shared → Prop} (hs : Ok X W ρ s)
    (q : ∀ acc C s', s.heap.get? C = Option.none → (∃ m, s'.heap.Ns C m) → SExt [] s s' → Post .f W s.heap (.ref acc) s'.heap (.list (xs.flatMap out)) → compPost X.M X.A NoE use Q (.ref acc) C (.ok .next) s') :
    wpAny X.M X.A (comprehension (.ListComp elt (⟨t, iter, ifs, 0⟩ :: rest) scope pos) scope X.env (firstIterPos (⟨t, iter, ifs, 0⟩ :: rest) pos) (newList []) false (eval iter X.env) use) Q NoE s := by
  have hcells : ∀ x, (x, NameKind.free) ∈ scope.names → ∃ c, X.env.cells.lookup x = some c := by
    intro x hx
    obtain ⟨e₀, hm₀, hkn₀⟩ := lo.free_mem x hx
    obtain ⟨v₀, z, _⟩ | ⟨⟨ov, h1, h2⟩, _⟩ := hs.ent _ hm₀
    · have z' : e₀ = .gl v₀ := z
      rw [z'] at hkn₀; cases hkn₀
    have kd := F.kd x (hκ x hx)
    rcases h1 with ⟨a, _⟩ | ⟨a, c, e, n⟩
    · have a' : X.env.kindOf x = some .local := a
      rw [a'] at kd; rcases kd with z | z <;> cases z
    · exact ⟨c, e⟩
  refine wpAny_comprehension_free (g := ⟨t, iter, ifs, 0⟩) (gs := rest) rfl (hf _) (closureFor_clos hcells) hk (fun x hx hl => by obtain ⟨n, k⟩ := x; dsimp only at hl; subst hl; exact nodup_lookup nd hx) ?_
  refine wpAny_mono (src s hs) (fun v s₁ k₁ => ?_) fun _ _ x => x
  have hs₁ := hs.mono k₁.1
  refine it_start F hs₁ k₁.2 fun it G s₂ k₂ hit hfr => ?_
  refine wpAny_newObj_type (hd := by size_fits) ?_
  have hacc : s₂.heap.get? s₂.heap.objs.size = Option.none := get_size _
  have kp := k₂.trans (sext_push (T := []) s₂ { cls := .type "list", dict := Option.none, data := .seq ([] : List Value).toArray })
  have hacc₁ : s₁.heap.get? s₂.heap.objs.size = Option.none := k₂.ext.fresh hacc
  have hget : (s₂.heap.push { cls := .type "list", dict := Option.none, data := .seq ([] : List Value).toArray }).get? s₂.heap.objs.size = some { cls := .type "list", dict := Option.none, data := .seq ([] : List Value).toArray } := Heap.get?_push_size _ rfl
  refine env_comp F hs₁ kp hacc₁ ⟨_, hget⟩ nd hk hκ lo fun env s' elo F' ok keep => ?_
  have hne : ∀ b o, s₂.heap.get? b = some o → s'.heap.get? b = some o := fun b o e => keep b o (Heap.get?_push_of_some _ e)
  have hit' : ItOk (s₂.heap.objs.size :: W) s'.heap it G (xs.map φ) 0 := by
    generalize xs.map φ = zs at hit
    cases hit with
    | @list l o vs ds i ep hl hc hd hw hr hi =>
      refine .list (hne _ _ hl) hc hd (fun z => ?_) (hr.mask hne hacc) ?_
      · rcases List.mem_cons.mp z with z | z
        · rw [z, hacc] at hl; cases hl
        · exact hw z
      · obtain ⟨o', ho', r'⟩ := hi; exact ⟨o', hne _ _ ho', r'⟩
    | range hi => exact .range (hne _ _ hi)
  have hwit : it ∉ s₂.heap.objs.size :: W := fun z => by
    obtain ⟨o, _, ho, _⟩ := hit.obj
    rcases List.mem_cons.mp z with z | z
    · rw [z, hacc] at ho; cases ho
    · obtain ⟨o', ho'⟩ := hs₁.wal it z; rw [hfr] at ho'; cases ho'
  have hacc' : AccIs (s₂.heap.objs.size :: W) s'.heap s₂.heap.objs.size [] := ⟨_, [], rfl, ⟨_, keep _ _ hget⟩, .nil⟩
  have ac : AccAt ⟨X.B, X.A, { env with scope := relabel scope X.env }, s₁, X.n, [], closable scope.names⟩ (s₂.heap.objs.size :: W) s₂.heap.objs.size := ⟨.head _, hacc₁⟩
  have main := comp_start (X := ⟨X.B, X.A, { env with scope := relabel scope X.env }, s₁, X.n, [], closable scope.names⟩) (W := s₂.heap.objs.size :: W) (acc := s₂.heap.objs.size) (elt := elt) (gens := ⟨t, iter, ifs, 0⟩ :: rest) (scope := scope) (pos := pos) (j := 0) rfl hit'
    (comp_loop (X := ⟨X.B, X.A, { env with scope := relabel scope X.env }, s₁, X.n, [], closable scope.names⟩) (ρ := ρc) rfl F' lo.noOwn (turn _ _ _ rfl rfl rfl F' ac) hgo ok hit' hfr hwit (fun o z => nomatch z) hacc' (by simpa using hz))
  refine codeAny_mono main fun r s'' hr => ?_
  obtain ⟨rfl, ok'', ha''⟩ := hr
  have hns : ∃ m, s''.heap.Ns env.locals m := by
    obtain ⟨x, hx⟩ := hloc
    obtain ⟨v, z, _⟩ | ⟨⟨ov, h1, _⟩, _⟩ := ok''.ok.ent _ (lo.loc_mem x hx)
    · cases z
    · have kx : Env.kindOf { env with scope := relabel scope X.env } x = some .local := by
        have := relabel_mem (env := X.env) nd hx
        exact this
      rcases h1 with ⟨_, m, n, _⟩ | ⟨a, _⟩
      · exact ⟨m, n⟩
      · have a' : Env.kindOf { env with scope := relabel scope X.env } x = some .cell ∨ Env.kindOf { env with scope := relabel scope X.env } x = some .free := a
        rw [kx] at a'
        rcases a' with z | z <;> cases z
  refine q _ _ _ (by rw [elo]; exact k₁.1.ext.fresh (kp.ext.fresh (get_size _))) hns (k₁.1.trans ⟨ok''.ok.ext.ext, ok''.ok.ext.gens, ok''.ok.ext.os⟩) ?_
  rw [List.nil_append] at ha''
  obtain ⟨a, vs, e, hl, hr⟩ := ha''
  cases e
  refine ⟨.list hl (fun z => ?_) (hr.less fun a ha => .tail _ ha), fun b e => by cases e; exact k₁.1.ext.fresh hacc₁⟩
  obtain ⟨o, ho⟩ := hs₁.wal _ z
  rw [hacc₁] at ho; cases ho

theorem ev_comp {elt : Expr} {t iter : Expr} {ifs : List Expr} {rest : List Comprehension} {scope : Scope} {pos : Pos} {α : Type} {xs : List α} {φ : α → D} {out : α → List D} {ρc : List (Str × Ent)} (F : Fine X)
    (nd : (scope.names.map (·.1)).Nodup) (hk : scope.kind = .function) (hκ : ∀ x, (x, NameKind.free) ∈ scope.names → x ∈ X.κ) (hloc : ∃ x, (x, NameKind.local) ∈ scope.names) (lo : LayOf X.B ρ scope.names ρc) (src : Src X W ρ iter (xs.map φ))
    (turn : ∀ X' W' acc, X'.B = X.B → X'.n = X.n → X'.κ = closable scope.names → Fine X' → AccAt X' W' acc → ∀ x ∈ xs, ∃ ρ' c, TgtC X' W' ρc t (φ x) ρ' ∧ TstAll X' W' ρ' ifs c ∧
      (c = true → NoOwn ρ' → InnerOk X' W' acc elt (⟨t, iter, ifs, 0⟩ :: rest) (.ListComp elt (⟨t, iter, ifs, 0⟩ :: rest) scope pos) 1 ρ' (out x)) ∧ (c = false → out x = []))
    (hz : (xs.flatMap out).length ≤ 1000000)
    (hf : ∀ env x, foldedSetIterable iter env x = pure x := by intro _ _; rfl)
    (hgo : ∀ it v M A E Q (s : Shared), (∃ o vs, s.heap.get? it = some o ∧ o.data = .fields vs ∧ (o.cls = .type "list_iterator" ∨ o.cls = .type "range_iterator")) → Q () s → wpAny M A (letOwnedTupleGo t (.ref it) v) Q E s := by intro _ _ _ _ _ _ _ _ q; exact wpAny_pure q) :
    Ev X W ρ .f (.ListComp elt (⟨t, iter, ifs, 0⟩ :: rest) scope pos) (.list (xs.flatMap out)) := fun s hs => by
  rw [eval_ListComp]
  refine comp_gen F nd hk hκ hloc lo src turn hz hf hgo (use := Option.none) hs fun acc C s' hC hns k p => ?_
  obtain ⟨m, hns⟩ := hns
  refine ⟨m, hns, fun h' hsb => ⟨⟨k.ext.sameBut hC hsb, k.gens, k.os⟩, p.1.extBut hsb.extBut (.inr (.ns hns)), p.2⟩⟩

/-- x = [..] with the comprehension on the right -/
theorem assign_comp {x : Str} {p spos : Pos} {elt : Expr} {t iter : Expr} {ifs : List Expr} {rest : List Comprehension} {scope : Scope} {pos : Pos} {α : Type} {xs : List α} {φ : α → D} {out : α → List D} {ρc ρ' : List (Str × Ent)} {sts : List Stmt} {N : Nrm} {R : Rtn} (F : Fine X)
    (nd : (scope.names.map (·.1)).Nodup) (hk : scope.kind = .function) (hκ : ∀ x, (x, NameKind.free) ∈ scope.names → x ∈ X.κ) (hloc : ∃ x, (x, NameKind.local) ∈ scope.names) (lo : LayOf X.B ρ scope.names ρc) (src : Src X W ρ iter (xs.map φ))
    (turn : ∀ X' W' acc, X'.B = X.B → X'.n = X.n → X'.κ = closable scope.names → Fine X' → AccAt X' W' acc → ∀ x ∈ xs, ∃ ρ' c, TgtC X' W' ρc t (φ x) ρ' ∧ TstAll X' W' ρ' ifs c ∧
      (c = true → NoOwn ρ' → InnerOk X' W' acc elt (⟨t, iter, ifs, 0⟩ :: rest) (.ListComp elt (⟨t, iter, ifs, 0⟩ :: rest) scope pos) 1 ρ' (out x)) ∧ (c = false → out x = []))
    (hz : (xs.flatMap out).length ≤ 1000000) (hp : Put ρ x (.val true (.list (xs.flatMap out))) ρ') (n : Blk X W ρ' sts N R)
    (hf : ∀ env x, foldedSetIterable iter env x = pure x := by intro _ _; rfl)
    (hgo : ∀ it v M A E Q (s : Shared), (∃ o vs, s.heap.get? it = some o ∧ o.data = .fields vs ∧ (o.cls = .type "list_iterator" ∨ o.cls = .type "range_iterator")) → Q () s → wpAny M A (letOwnedTupleGo t (.ref it) v) Q E s := by intro _ _ _ _ _ _ _ _ q; exact wpAny_pure q) :
    Blk X W ρ (.Assign [.Name x p] (.ListComp elt (⟨t, iter, ifs, 0⟩ :: rest) scope pos) spos :: sts) N R := by
  have sw : ∃ b, swapsWith (.ListComp elt (⟨t, iter, ifs, 0⟩ :: rest) scope pos) (some (.Name x p)) spos.line X.env = pure b := ⟨_, rfl⟩
  obtain ⟨b, hb⟩ := sw
  refine blk_cons fun P s ok => ?_
  cases b with
  | false =>
    refine wpAny_Assign_Name (wpAny_mono (ev_comp F nd hk hκ hloc lo src turn hz hf hgo s ok.ok) (fun v s₁ k => store_val F (ok.mono k.1) hp k.2.1 fun s' ok' _ => n P s' ok') fun _ _ x => x) hb
  | true =>
    rw [exec_Assign_Name_used _ _ _ _ hb]
    refine wpAny_bind (wpAny_standAt (wpAny_bind ?_))
    show wpAny _ _ (comprehension (.ListComp elt (⟨t, iter, ifs, 0⟩ :: rest) scope pos) scope X.env (firstIterPos (⟨t, iter, ifs, 0⟩ :: rest) pos) (newList []) false (eval iter X.env) (some (PySem.assign (.Name x p) X.env)) >>= fun _ => pure ()) _ _ s
    refine wpAny_bind (comp_gen F nd hk hκ hloc lo src turn hz hf hgo (use := some (PySem.assign (.Name x p) X.env)) ok.ok fun acc C s' hC hns k p => ?_)
    obtain ⟨m, hns⟩ := hns
    have hL : ∀ y e, (y, e) ∈ ρ → X.env.kindOf y = some .local → C ≠ X.env.locals := fun y e hm hky z => by
      obtain ⟨v, z', hg, _⟩ | ⟨⟨ov, h1, _⟩, _⟩ := ok.ok.ent _ hm
      · rw [hky] at hg; cases hg
      · rcases h1 with ⟨_, m', n', _⟩ | ⟨a, _⟩
        · obtain ⟨o, _, _, ho, _⟩ := n'
          rw [← z, hC] at ho; cases ho
        · have a' : X.env.kindOf y = some .cell ∨ X.env.kindOf y = some .free := a
          rw [hky] at a'; rcases a' with z | z <;> cases z
    obtain ⟨e₀, hm₀, _⟩ := hp.mem
    refine wpAny_assign_Name (store_ok2 F (ok.mono k) hp ⟨_, rfl, p.1⟩ (fun _ _ e => by cases e) fun s'' ok'' _ hn => ?_)
    have hns'' := hn C m hns (hL x e₀ hm₀)
    refine ⟨m, hns'', fun h' hsb => wpAny_pure (wpAny_pure (n P _ ?_))⟩
    have hC' : X.sE.heap.get? C = Option.none := ok.ok.ext.ext.fresh hC
    refine ⟨⟨⟨ok''.ok.ext.ext.sameBut hC' hsb, ok''.ok.ext.gens, ok''.ok.ext.os⟩, ok''.ok.nd, fun p hp' => ?_, ok''.ok.own, fun b hb => ?_⟩, ok''.prot.extBut hsb.extBut (notFixed_ns hns'') (.ns hns'')⟩
    · obtain g | ⟨⟨ov, h1, h2⟩, h3⟩ := ok''.ok.ent p hp'
      · exact .inl g
      · refine .inr ⟨⟨ov, ?_, h2.extBut hsb.extBut (.ns hns'')⟩, h3⟩
        rcases h1 with ⟨a, m', n', e⟩ | ⟨a, c, e, n'⟩
        · have hkey : p.1 ∈ ρ.map (·.1) := by rw [← hp.keys]; exact List.mem_map_of_mem hp'
          obtain ⟨⟨y, e'⟩, hm, hy⟩ := List.mem_map.mp hkey
          have hy' : y = p.1 := hy
          exact .inl ⟨a, m', n'.sameBut hsb (hL y e' hm (by rw [hy']; exact a)).symm, e⟩
        · exact .inr ⟨a, c, e, n'.sameBut hsb (ns_ne_cell hns'' n').symm⟩
    · obtain ⟨o, ho⟩ := ok''.ok.wal b hb
      obtain ⟨o', ho'⟩ := ok.ok.wal b hb
      exact ⟨o, hsb.extBut b o (fun z => by rw [z, hC] at ho'; cases ho') ho⟩

theorem kap {scope : Scope} (h : ((scope.names.filter fun p => p.2 == NameKind.free).all fun p => X.κ.contains p.1) = true) : ∀ x, (x, NameKind.free) ∈ scope.names → x ∈ X.κ := by
  intro x hx
  have := List.all_eq_true.mp h (x, .free) (List.mem_filter.mpr ⟨hx, rfl⟩)
  simpa using this
end
end Mine



namespace Mine
open PySem PyProof.Rows

section
variable {X : Cx} {W : List Addr} {ρ : List (Str × Ent)}

theorem intsAre_reps {h : Heap} {vs : List Value} {ns : List Int} (r : IntsAre vs ns) : Reps W h vs (ns.map .int) := by
  induction r with
  | nil => exact .nil
  | cons n t _ ih => exact .cons (.int _ _) ih

/-- [d] * n -/
theorem fold_rep (v : Value) (n : Nat) : List.foldl (fun (x1 x2 : Array Value) => x1 ++ x2) #[] (List.replicate n #[v]) = (List.replicate n v).toArray := by
  have key : ∀ (n : Nat) (acc : List Value), List.foldl (fun (x1 x2 : Array Value) => x1 ++ x2) acc.toArray (List.replicate n #[v]) = (acc ++ List.replicate n v).toArray := by
    intro n
    induction n with
    | zero => intro acc; simp
    | succ n ih =>
      intro acc
      rw [List.replicate_succ, List.foldl_cons]
      have : acc.toArray ++ #[v] = (acc ++ [v]).toArray := by simp
      rw [this, ih]
      simp [List.replicate_succ]
  have := key n []
  simpa using this
theorem reps_replicate {h : Heap} {v : Value} {d : D} (r : Rep W h v d) (n : Nat) : Reps W h (List.replicate n v) (List.replicate n d) := by
  induction n with
  | zero => exact .nil
  | succ n ih => exact .cons r ih
theorem ev_rep {l₁ l₂ : Lv} {e₁ e₂ : Expr} {d : D} {k : Int} {pos : Pos} (h₁ : Ev X W ρ l₁ e₁ (.list [d])) (h₂ : Ev X W ρ l₂ e₂ (.int k)) (h0 : -(2 ^ 62) ≤ k) (hz : k ≤ 1000000) : Ev X W ρ .f (.BinOp e₁ .Mult e₂ pos) (.list (List.replicate k.toNat d)) := fun s hs => by
  refine wpAny_BinOp (ev_two (f := fun a b => binaryOp .Mult a b) h₁ h₂ hs fun va vb s' kk ra rb => ?_)
  obtain ⟨l, vs, rfl, hl, r⟩ := ra
  obtain ⟨u, rfl⟩ := repT_int rb
  cases r with
  | cons rv rn =>
    cases rn
    rename_i v
    obtain ⟨n, ho⟩ := hl
    have e : ([v] : List Value).toArray = #[v] := rfl
    refine wpAny_binaryOp_repeat_ref (T := "list") (U := "int") (by decide) ⟨_, ho, rfl⟩ (fun s' => typeIs_int s' k u) noFill_list_mul F.fills_int_mul F.slot_int_rmul repeat_list F.slot_int_index.lookup
      (call_meets F.slot_int_rmul (typeIs_int s' k u) F.entry_int_rmul (F.args_int_rmul_2 _ _) (int___rmul___int_list k u l #[v] n)
        ⟨ho, rfl, ⟨_, ho, rfl⟩, call_meets F.slot_list_mul ⟨_, ho, rfl⟩ F.entry_list_mul (F.args_list_mul_2 _ _)
          (AutoListH.list___mul___list_int_3 l #[v] n k u (by simp [Builtin.List.listFitsIndex]; omega) (by simp; omega) (by simp [Builtin.List.listTooLong, sizeLine]; omega)) ⟨ho, ?_⟩⟩)
    have e2 : (if (#[v] : Array Value).isEmpty = true then 0 else k.toNat) = k.toNat := rfl
    rw [e2, fold_rep]
    exact new_list hs kk (reps_replicate rv _)

theorem cmp_isNI {b : Bool} : CmpV X W .Is (.bool b) (.val .notImplemented) false := by
  intro s va vb ρ F hs ra rb
  rw [repT_bool ra]
  have r : Rep W s.heap vb (.val .notImplemented) := rb
  cases r
  exact wpAny_is_other (by cases b <;> rfl) (by intro e; cases e) ⟨.refl .., rfl⟩

/-- and, or of bools as values -/
theorem ev_and2 {l l' : Lv} {e₁ e₂ : Expr} {a b : Bool} {pos : Pos} (h₁ : Ev X W ρ l e₁ (.bool a)) (h₂ : a = true → Ev X W ρ l' e₂ (.bool b)) : Ev X W ρ .f (.BoolOp .And [e₁, e₂] pos) (.bool (a && b)) := fun s hs => by
  refine wpAny_And2 (wpAny_mono (h₁ s hs) (fun v s₁ k => ?_) fun _ _ x => x)
  rw [repT_bool k.2.toT]
  refine wpAny_truthy_bool ?_
  cases a with
  | false => exact ⟨k.1, .bool _, fun _ e => by cases e⟩
  | true => exact wpAny_mono (h₂ rfl s₁ (hs.mono k.1)) (fun v s₂ k' => ⟨k.1.trans k'.1, by rw [repT_bool k'.2.toT]; exact .bool _, fun _ e => by rw [repT_bool k'.2.toT] at e; cases e⟩) fun _ _ x => x
/-- methods -/
noncomputable def GetM (X : Cx) (W : List Addr) (d₀ : D) (name : Str) (f : Value) (bound : Bool) : Prop :=
  ∀ s ρ ov pl, Fine X → Ok X W ρ s → RepT W s.heap ov d₀ → wpAny X.M X.A (getMethod ov name pl) (fun fx s' => SExt [] s s' ∧ fx = (f, if bound then [ov] else [])) NoE s
theorem callWith_F {f : Value} {first : List Value} {args : List (Bool × Sem Value)} {pos : Pos} {s : Shared} {Q : Value → Shared → Prop} {V : List Value → Heap → Prop} (F : Fine X) (hs : Ok X W ρ s)
    (ha : wpAny X.M X.A (spliced args) (fun vs s' => SExt [] s s' ∧ V vs s'.heap) NoE s) (hk : KeepOk X W f)
    (hc : ∀ vs s₁, SExt [] s s₁ → V vs s₁.heap → wpAny X.M X.A (call f (first ++ vs) []) Q NoE s₁)
    (hst : args.any (·.1) = false) : wpAny X.M X.A (callWith pos f first args []) Q NoE s := by
  unfold callWith
  refine wpAny_bind (wpAny_holding (evalArgs_noStar hst (wpAny_mono ha (fun vs s₁ h₁ => wpAny_bind (wpAny_standAt ?_)) fun _ _ x => x)))
  have hs₁ := hs.mono h₁.1
  have main : wpAny X.M X.A (call f (first ++ vs) []) Q NoE s₁ := hc vs s₁ h₁.1 h₁.2
  have tail : ∀ {t : Sem Value}, wpAny X.M X.A t Q NoE s₁ → wpAny X.M X.A (t >>= fun r => holding [r] point >>= fun _ => pure r) Q NoE s₁ :=
    fun ht => wpAny_bind (wpAny_mono ht (fun r s₂ hr => wpAny_bind (wpAny_holding (wpAny_point (wpAny_pure hr)))) fun _ _ x => x)
  simp only [hst, List.any_nil, Bool.or_false]
  refine wpAny_bind (wpAny_mono (hk s₁ ρ F hs₁) (fun k s₂ e => ?_) fun _ _ x => x)
  subst e
  cases k with
  | frame =>
    dsimp only
    split
    · exact tail main
    · exact tail (by unfold callMarked; exact Calls.wpAny_keep main)
  | boundFrame =>
    dsimp only
    split
    · exact tail main
    · exact tail (by unfold callMarked; exact Calls.wpAny_keep main)
  | machine => exact tail main
  | caller => exact tail (wpAny_operateT main)

/-- o.name(args), the object handed as first -/
theorem ev_meth {lo l : Lv} {o : Expr} {name : Str} {apos pos : Pos} {args : List Expr} {d₀ d : D} {ds : List D} {f : Value} {b : Bool} {pl : Env → Sem Bool} (F : Fine X) (ho : Ev X W ρ lo o d₀) (hm : GetM X W d₀ name f b) (ha : EvTs X W ρ args ds) (hc : CallV X W f (if b then d₀ :: ds else ds) l d) (hk : KeepOk X W f)
    (he : ∀ env, eval (.Call (.Attribute o name apos) args [] pos) env = (do
      let ov ← eval o env
      standAt apos.atName
      let (f, first) ← holding [ov] (getMethod ov name (pl env))
      callWith pos f first (backTo pos (starEach args env)) (backToKw pos (keywordEach [] env))) := by intro _; rfl)
    (hst : ∀ env, (backTo pos (starEach args env)).any (·.1) = false := by intro _; rfl) : Ev X W ρ l (.Call (.Attribute o name apos) args [] pos) d := fun s hs => by
  rw [he]
  refine wpAny_bind (wpAny_mono (ho s hs) (fun ov s₁ k₁ => wpAny_bind (wpAny_standAt (wpAny_bind (wpAny_holding (wpAny_mono (hm s₁ ρ ov _ F (hs.mono k₁.1) k₁.2.toT) (fun fx s₂ k₂ => ?_) fun _ _ x => x))))) fun _ _ x => x)
  obtain ⟨k₂, rfl⟩ := k₂
  have kk := k₁.1.trans k₂
  show wpAny X.M X.A (callWith pos f (if b = true then [ov] else []) (backTo pos (starEach args X.env)) []) _ _ s₂
  refine callWith_F (V := fun vs h => RepTs W h vs ds) F (hs.mono kk) (ha pos s₂ (hs.mono kk)) hk (fun vs s₃ k₃ hv => ?_) (hst _)
  have hs₃ := hs.mono (kk.trans k₃)
  have r₀ : RepT W s₃.heap ov d₀ := (k₁.2.toT.ext k₂.ext).ext k₃.ext
  have hargs : RepTs W s₃.heap ((if b = true then [ov] else []) ++ vs) (if b then d₀ :: ds else ds) := by
    cases b with
    | true => exact .cons r₀ hv
    | false => exact hv
  exact wpAny_mono (hc s₃ ρ _ F hs₃ hargs) (fun v s' q => ⟨(kk.trans k₃).trans q.1, (q.2.back k₃).back kk⟩) fun _ _ x => x

end
end Mine



namespace Mine
open PySem PyProof.Rows

noncomputable def stAt (p : Program) (i : Nat) : Stmt := p.main.body.getD i (.Pass ⟨0, 0, 0, 0⟩)
noncomputable def fBody : Stmt → List Stmt
  | .FunctionDef _ _ b _ _ _ _ _ _ _ => b
  | _ => []
noncomputable def fArgs : Stmt → Arguments
  | .FunctionDef _ a _ _ _ _ _ _ _ _ => a
  | _ => ⟨[], [], Option.none, [], [], Option.none, []⟩
noncomputable def fScope : Stmt → Scope
  | .FunctionDef _ _ _ _ _ _ s _ _ _ => s
  | _ => ⟨.function, [], false, false, []⟩
structure IsDef (fd : FuncData) (st : Stmt) : Prop where
  body : fd.body = .stmts (fBody st)
  params : fd.params = fArgs st
  scope : fd.scope = fScope st
  defaults : fd.defaults = .none
  closure : fd.closure = []
/-- a def of the text, where it stands -/
structure DefAt (B : Base) (a : Addr) (st : Stmt) : Prop where
  fn : ∃ fd, FnB B a fd ∧ IsDef fd st
theorem DefAt.keep {X : Cx} {W : List Addr} {a : Addr} {st : Stmt} (d : DefAt X.B a st) : KeepOk X W (.ref a) := by
  obtain ⟨fd, fb, _⟩ := d.fn
  exact keepOk_fn fb
theorem callV_def {X : Cx} {W : List Addr} {a : Addr} {st : Stmt} {as : List Arg} {ds : List D} {l : Lv} {d : D} {ρ₀ ρ₁ : List (Str × Ent)} {n : Nat} (hn : n + 1 ≤ X.n) (dd : DefAt X.B a st)
    (hp : fArgs st = ⟨[], as, Option.none, [], [], Option.none, []⟩) (nd : (as.map (·.arg)).Nodup) (lo : LayOf X.B [] (fScope st).names ρ₀) (pu : Puts ρ₀ (as.map (·.arg)) ds ρ₁)
    (run : ∀ X', X'.B = X.B → X'.n = n → X'.T = [] → X'.κ = closable (fScope st).names → Fine X' → (∀ a ∈ W, ∃ o, X'.sE.heap.get? a = some o) → Blk X' W ρ₁ (fBody st) (fun _ _ => False) (Ret X' W l d)) : CallV X W (.ref a) ds l d := by
  obtain ⟨fd, fb, hd⟩ := dd.fn
  refine callV_fn hn fb hd.body (hd.params.trans hp) hd.defaults hd.closure nd (by rw [hd.scope]; exact lo) pu fun X' s' hB hn' hT hκ F wal ok => ?_
  refine wpAny_mono (run X' hB hn' hT (by rw [hκ, hd.scope]) F wal [] s' ok) (fun f s'' h => ?_) fun _ _ h => h
  cases f with
  | next => exact h.elim
  | ret v =>
    have h' : Ret X' W l d v s'' := h
    refine ⟨v, rfl, ?_, h'.2⟩
    rw [← hT]; exact h'.1
  | _ => exact h.elim

/-- entries forgotten -/
inductive Fgt : List (Str × Ent) → List (Str × Ent) → Prop
  | nil : Fgt [] []
  | un {x : Str} {e : Ent} {ρ ρ' : List (Str × Ent)} : e.rw = true → Fgt ρ ρ' → Fgt ((x, e) :: ρ) ((x, .un) :: ρ')
  | eq {x : Str} {e e' : Ent} {ρ ρ' : List (Str × Ent)} : e = e' → Fgt ρ ρ' → Fgt ((x, e) :: ρ) ((x, e') :: ρ')
theorem Fgt.keys {ρ ρ' : List (Str × Ent)} (h : Fgt ρ ρ') : ρ'.map (·.1) = ρ.map (·.1) := by
  induction h with
  | nil => rfl
  | un _ _ ih => rw [List.map_cons, List.map_cons, ih]
  | eq _ _ ih => rw [List.map_cons, List.map_cons, ih]
theorem Fgt.back {ρ ρ' : List (Str × Ent)} (h : Fgt ρ ρ') : ∀ p ∈ ρ', p ∈ ρ ∨ (p.2 = .un ∧ ∃ e, (p.1, e) ∈ ρ ∧ e.rw = true) := by
  induction h with
  | nil => intro p hp; cases hp
  | un hr _ ih =>
    intro p hp
    rcases List.mem_cons.mp hp with rfl | hp
    · exact .inr ⟨rfl, _, .head _, hr⟩
    · rcases ih p hp with h | ⟨h1, e, h2, h3⟩
      · exact .inl (.tail _ h)
      · exact .inr ⟨h1, e, .tail _ h2, h3⟩
  | eq he _ ih =>
    intro p hp
    rcases List.mem_cons.mp hp with rfl | hp
    · exact .inl (he ▸ .head _)
    · rcases ih p hp with h | ⟨h1, e, h2, h3⟩
      · exact .inl (.tail _ h)
      · exact .inr ⟨h1, e, .tail _ h2, h3⟩
theorem Ok.fgt {X : Cx} {W : List Addr} {ρ ρ' : List (Str × Ent)} {s : Shared} (x : Ok X W ρ s) (h : Fgt ρ ρ') : Ok X W ρ' s := x.forget h.back (by rw [h.keys]; exact x.nd)
theorem OkP.fgt {X : Cx} {W : List Addr} {P : List Pr} {ρ ρ' : List (Str × Ent)} {s : Shared} (x : OkP X W P ρ s) (h : Fgt ρ ρ') : OkP X W P ρ' s := ⟨x.ok.fgt h, x.prot⟩
theorem blk_fgt {X : Cx} {W : List Addr} {ρ ρ' : List (Str × Ent)} {R : Rtn} (h : Fgt ρ ρ') : Blk X W ρ [] (fun P s => OkP X W P ρ' s) R := blk_nil fun P s ok => ok.fgt h
theorem for_range {X : Cx} {W : List Addr} {ρ : List (Str × Ent)} {N : Nrm} {R : Rtn} {t iter : Expr} {body rest : List Stmt} {pos : Pos} {lo hi : Int} (F : Fine X) (σ : Nat → List (Str × Ent)) (h : Src X W ρ iter (rangeD lo hi)) (h0 : Fgt ρ (σ 0))
    (turn : ∀ i : Nat, i < (hi - lo).toNat → ∃ ρ', Tgt X W (σ i) t (.int (lo + i)) ρ' ∧ Blk X W ρ' body (fun P s => OkP X W P (σ (i + 1)) s) R) (n : Blk X W (σ (hi - lo).toNat) rest N R)
    (hf : ∀ env x, foldedSetIterable iter env x = pure x := by intro _ _; rfl) (hg : ∀ it v M A E Q (s : Shared), (∃ o vs, s.heap.get? it = some o ∧ o.data = .fields vs ∧ (o.cls = .type "list_iterator" ∨ o.cls = .type "range_iterator")) → Q () s → wpAny M A (letOwnedTupleGo t (.ref it) v) Q E s := by intro _ _ _ _ _ _ _ _ q; exact wpAny_pure q) :
    Blk X W ρ (.For t iter body [] pos :: rest) N R := by
  refine blk_for F σ h (fun s ok => ok.fgt h0) (fun i d hd => ?_) ?_ hf hg
  · have hi : i < (hi - lo).toNat := by
      have := (List.getElem?_eq_some_iff.mp hd).1
      simpa [rangeD] using this
    have e : d = .int (lo + i) := by
      rw [rangeD, List.getElem?_map, List.getElem?_range hi] at hd
      cases hd; rfl
    rw [e]; exact turn i hi
  · have e : (rangeD lo hi).length = (hi - lo).toNat := by simp [rangeD]
    rw [e]; exact n
end Mine



namespace Mine
open PySem PyProof.Rows

section
variable {X : Cx} {W : List Addr} {ρ : List (Str × Ent)}
noncomputable abbrev natD (x : Nat) : D := .int (x : Int)
theorem rangeD_nat (m : Nat) : rangeD 0 (m : Int) = (List.range m).map natD := by
  unfold rangeD
  have : ((m : Int) - 0).toNat = m := by omega
  rw [this]
  apply List.map_congr_left
  intro i _
  simp
theorem src_rangeN {p pos : Pos} {l : Lv} {e : Expr} {n : Int} {m : Nat} (F : Fine X) (hm : ((Str.ofString "range" : Str), Ent.gl (.type "range")) ∈ ρ) (h : Ev X W ρ l e (.int n)) (hn : n = (m : Int)) (hz : m ≤ 1000000)
    (hse : ∀ env, starEach [e] env = [(false, eval e env)] := by intro _; rfl) : Src X W ρ (.Call (.Name (Str.ofString "range") p) [e] [] pos) ((List.range m).map natD) := by
  rw [← rangeD_nat]
  subst hn
  exact src_range1 F hm h (by omega) (by omega) hse
theorem for_rangeN {N : Nrm} {R : Rtn} {t : Expr} {body rest : List Stmt} {p pos pos' : Pos} {l : Lv} {e : Expr} {n : Int} {m : Nat} (F : Fine X) (σ : Nat → List (Str × Ent)) (hm : ((Str.ofString "range" : Str), Ent.gl (.type "range")) ∈ ρ) (h : Ev X W ρ l e (.int n)) (hn : n = (m : Int)) (hz : m ≤ 1000000) (h0 : Fgt ρ (σ 0))
    (turn : ∀ i : Nat, i < m → ∃ ρ', Tgt X W (σ i) t (natD i) ρ' ∧ Blk X W ρ' body (fun P s => OkP X W P (σ (i + 1)) s) R) (nx : Blk X W (σ m) rest N R)
    (hse : ∀ env, starEach [e] env = [(false, eval e env)] := by intro _; rfl)
    (hg : ∀ it v M A E Q (s : Shared), (∃ o vs, s.heap.get? it = some o ∧ o.data = .fields vs ∧ (o.cls = .type "list_iterator" ∨ o.cls = .type "range_iterator")) → Q () s → wpAny M A (letOwnedTupleGo t (.ref it) v) Q E s := by intro _ _ _ _ _ _ _ _ q; exact wpAny_pure q) :
    Blk X W ρ (.For t (.Call (.Name (Str.ofString "range") p) [e] [] pos) body [] pos' :: rest) N R := by
  refine blk_for F σ (src_rangeN F hm h hn hz hse) (fun s ok => ok.fgt h0) (fun i d hd => ?_) ?_ (by intro _ _; rfl) hg
  · have hi : i < m := by
      have := (List.getElem?_eq_some_iff.mp hd).1
      simpa using this
    have e : d = natD i := by
      rw [List.getElem?_map, List.getElem?_range hi] at hd
      cases hd; rfl
    rw [e]; exact turn i hi
  · have e : ((List.range m).map natD).length = m := by simp
    rw [e]; exact nx
/-- [v for x in xs], [v for x in xs if c] as lists -/
theorem flatMap_one {α β : Type} (f : α → β) (xs : List α) : xs.flatMap (fun x => [f x]) = xs.map f := by
  induction xs with
  | nil => rfl
  | cons x xs ih => rw [List.flatMap_cons, ih]; rfl
theorem Tst.cast {e : Expr} {c c' : Bool} (h : Tst X W ρ e c) (z : c = c') : Tst X W ρ e c' := z ▸ h
end
end Mine



namespace Mine
open PySem PyProof.Rows
section
variable {X : Cx} {W : List Addr} {ρ : List (Str × Ent)}
end
end Mine



namespace Mine
open PySem PyProof.Rows

section
variable {prog : Program} {w : World} {A : Around} {E : Value → Shared → Prop}
end

section
variable {X : Cx} {W : List Addr} {ρ : List (Str × Ent)} {N : Nrm} {R : Rtn}
/-- several names are stored to, one after the other -/
inductive PutV : List (Str × Ent) → List Str → List D → List (Str × Ent) → Prop
  | nil {ρ : List (Str × Ent)} : PutV ρ [] [] ρ
  | cons {ρ ρ₁ ρ₂ : List (Str × Ent)} {x : Str} {d : D} {xs : List Str} {ds : List D} : Put ρ x (.val true d) ρ₁ → PutV ρ₁ xs ds ρ₂ → PutV ρ (x :: xs) (d :: ds) ρ₂
end
end Mine


set_option maxHeartbeats 1000000

namespace Mine
open PySem PyProof.Rows

/-! ### the sort's plan, asked with a plain answer -/
structure SOrd (lt : Nat → Nat → Bool) : Prop where
  irr : ∀ a, lt a a = false
  tr : ∀ a b c, lt a b = true → lt b c = true → lt a c = true
  neg : ∀ a b c, lt a c = true → lt a b = true ∨ lt b c = true
/-- before: less, or alike and earlier -/
noncomputable def Bf (lt : Nat → Nat → Bool) (a b : Nat) : Prop := lt a b = true ∨ (lt b a = false ∧ a < b)
section
variable {lt : Nat → Nat → Bool} (O : SOrd lt)
include O
theorem SOrd.asym {a b : Nat} (h : lt a b = true) : lt b a = false := by
  cases e : lt b a with
  | false => rfl
  | true => have := O.tr _ _ _ h e; rw [O.irr] at this; cases this
theorem Bf.ge {a b : Nat} (h : Bf lt a b) : lt b a = false := by
  rcases h with h | h
  · exact O.asym h
  · exact h.1
end

noncomputable abbrev gp (p : Array Nat) (i : Nat) : Nat := p.getD i 0
/-- the first m places are in play, the others as they were -/
structure Iv (N m : Nat) (p : Array Nat) : Prop where
  size : p.size = N
  perm : p.Perm (List.toArray (List.range N))
  low : ∀ i, i < m → gp p i < m
  tail : ∀ i, m ≤ i → i < N → gp p i = i
theorem Iv.succ {N m : Nat} {p : Array Nat} (h : Iv N m p) (hm : m < N) : Iv N (m + 1) p := by
  refine ⟨h.size, h.perm, fun i hi => ?_, fun i h1 h2 => h.tail i (by omega) h2⟩
  by_cases e : i < m
  · have := h.low i e; omega
  · have e : i = m := by omega
    subst e; rw [h.tail i (Nat.le_refl _) hm]; omega
theorem Iv.le {N m n : Nat} {p : Array Nat} (h : Iv N m p) (hn : m ≤ n) (hN : n ≤ N) : Iv N n p := by
  induction n with
  | zero => have : m = 0 := by omega
            subst this; exact h
  | succ n ih =>
    by_cases e : m = n + 1
    · subst e; exact h
    · exact (ih (by omega) (by omega)).succ (by omega)
theorem Iv.lt {N m : Nat} {p : Array Nat} (h : Iv N m p) (hm : m ≤ N) {i : Nat} (hi : i < N) : gp p i < N := by
  by_cases e : i < m
  · have := h.low i e; omega
  · rw [h.tail i (by omega) hi]; exact hi
theorem Iv.start (N : Nat) : Iv N 1 (List.toArray (List.range N)) ∨ N = 0 := by
  cases N with
  | zero => exact .inr rfl
  | succ N =>
    refine .inl ⟨by simp, .refl _, fun i hi => ?_, fun i h1 h2 => ?_⟩
    · have : i = 0 := by omega
      subst this; simp [gp]
    · simp [gp, h2]

noncomputable def Sup (lt : Nat → Nat → Bool) (p : Array Nat) (k : Nat) : Prop := ∀ i j, i < j → j < k → Bf lt (gp p i) (gp p j)
noncomputable def Sdn (lt : Nat → Nat → Bool) (p : Array Nat) (k : Nat) : Prop := ∀ i j, i < j → j < k → Bf lt (gp p j) (gp p i)
theorem Sup.ge {lt : Nat → Nat → Bool} (O : SOrd lt) {p : Array Nat} {k : Nat} (h : Sup lt p k) {i j : Nat} (hij : i ≤ j) (hj : j < k) : lt (gp p j) (gp p i) = false := by
  by_cases e : i = j
  · subst e; exact O.irr _
  · exact (h i j (by omega) hj).ge O

section
variable {lt : Nat → Nat → Bool} (O : SOrd lt) {N : Nat}
include O
/-- a falling run: the last q + 1 are alike, in their old order -/
structure Fal (lt : Nat → Nat → Bool) (N : Nat) (p : Array Nat) (n q : Nat) : Prop where
  iv : Iv N n p
  hq : q + 1 ≤ n
  dn : Sdn lt p (n - (q + 1))
  alike : ∀ i j, n - (q + 1) ≤ i → i < j → j < n → lt (gp p i) (gp p j) = false ∧ lt (gp p j) (gp p i) = false ∧ gp p i < gp p j
  ac : ∀ i j, i < n - (q + 1) → n - (q + 1) ≤ j → j < n → lt (gp p j) (gp p i) = true
omit O in
theorem Fal.one {p : Array Nat} {n : Nat} (h : Iv N n p) (h1 : 1 ≤ n) (dn : Sdn lt p (n - 1)) (ac : ∀ i, i < n - 1 → lt (gp p (n - 1)) (gp p i) = true) : Fal lt N p n 0 :=
  ⟨h, by omega, dn, fun i j h1 h2 h3 => by omega, fun i j h1 h2 h3 => by
    have : j = n - 1 := by omega
    subst this; exact ac i (by omega)⟩
end
end Mine



namespace Mine
open PySem PyProof.Rows

/-! ### data as the library's plain data -/
mutual
noncomputable def dpy : D → PyData
  | .none => .none
  | .bool b => .bool b
  | .int i => .int i
  | .str s => .str s
  | .list ds => .list (dpys ds)
  | .tuple ds => .tuple (dpys ds)
  | .key _ _ => .none
  | .val _ => .none
noncomputable def dpys : List D → List PyData
  | [] => []
  | d :: ds => dpy d :: dpys ds
end
mutual
noncomputable def dok : Nat → D → Bool
  | _, .none => true
  | _, .int _ => true
  | _, .str x => PyData.strOk x
  | n + 1, .list ds => doks n ds
  | n + 1, .tuple ds => doks n ds
  | _, _ => false
noncomputable def doks : Nat → List D → Bool
  | _, [] => true
  | n, d :: ds => dok n d && doks n ds
end
mutual
theorem rep_reads {W : List Addr} {h : Heap} : ∀ {v : Value} {d : D} (n : Nat), Rep W h v d → dok n d = true → ∃ as, Reads h v (dpy d) as
  | _, _, _, .nun, _ => ⟨_, Reads.none⟩
  | _, _, _, .bool b, _ => ⟨_, Reads.bool b⟩
  | _, _, _, .int i t, _ => ⟨_, Reads.int i t⟩
  | _, _, _, .str x t, _ => ⟨_, Reads.str x t⟩
  | _, _, 0, .list hl hw hr, hk => by simp [dok] at hk
  | _, _, 0, .tuple hl hw hr, hk => by simp [dok] at hk
  | _, _, n + 1, .list hl hw hr, hk => by
    obtain ⟨as, q⟩ := reps_reads n hr (by simpa [dok] using hk)
    obtain ⟨o, ho, hc, k, hd⟩ := hl.isList
    rw [dpy]
    exact ⟨_, .list ho hc hd (by simpa using q)⟩
  | _, _, n + 1, .tuple hl hw hr, hk => by
    obtain ⟨as, q⟩ := reps_reads n hr (by simpa [dok] using hk)
    obtain ⟨o, ho, hc, k, hd⟩ := hl
    rw [dpy]
    exact ⟨_, .tuple ho hc hd (by simpa using q)⟩
  | _, _, n, .key _ _ _, hk => by cases n <;> simp [dok] at hk
  | _, _, n, .val _, hk => by cases n <;> simp [dok] at hk
theorem reps_reads {W : List Addr} {h : Heap} : ∀ {vs : List Value} {ds : List D} (n : Nat), Reps W h vs ds → doks n ds = true → ∃ as, ReadsAll h vs (dpys ds) as
  | _, _, _, .nil, _ => ⟨_, ReadsAll.nil⟩
  | _, _, n, .cons hd r, hk => by
    rw [doks, Bool.and_eq_true] at hk
    obtain ⟨as, q⟩ := rep_reads n hd hk.1
    obtain ⟨bs, p⟩ := reps_reads n r hk.2
    rw [dpys]
    exact ⟨_, ReadsAll.cons q p⟩
end
theorem repT_reads {W : List Addr} {h : Heap} {v : Value} {d : D} {n : Nat} (r : RepT W h v d) (hk : dok n d = true) : ∃ as, Reads h v (dpy d) as := by
  cases d with
  | list ds =>
    obtain ⟨a, vs, rfl, hl, hr⟩ := r
    cases n with
    | zero => simp [dok] at hk
    | succ n =>
      obtain ⟨as, q⟩ := reps_reads n hr (by simpa [dok] using hk)
      obtain ⟨o, ho, hc, k, hd⟩ := hl.isList
      rw [dpy]
      exact ⟨_, .list ho hc hd (by simpa using q)⟩
  | _ => exact rep_reads n r hk
mutual
theorem dok_lay : ∀ (n : Nat) (d : D), dok n d = true → (dpy d).canLay0 = true ∧ (dpy d).depth ≤ n
  | n, .none, _ => by simp [dpy, PyData.canLay0, PyData.depth]
  | n, .int _, _ => by simp [dpy, PyData.canLay0, PyData.depth]
  | n, .str x, h => by cases n <;> simp [dok] at h <;> simp [dpy, PyData.canLay0, PyData.depth, h]
  | 0, .list ds, h => by simp [dok] at h
  | 0, .tuple ds, h => by simp [dok] at h
  | n + 1, .list ds, h => by
    obtain ⟨a, b⟩ := doks_lay n ds (by simpa [dok] using h)
    simp only [dpy, PyData.canLay0, PyData.depth]
    exact ⟨a, by omega⟩
  | n + 1, .tuple ds, h => by
    obtain ⟨a, b⟩ := doks_lay n ds (by simpa [dok] using h)
    simp only [dpy, PyData.canLay0, PyData.depth]
    exact ⟨a, by omega⟩
  | n, .bool _, h => by cases n <;> simp [dok] at h
  | n, .key _ _, h => by cases n <;> simp [dok] at h
  | n, .val _, h => by cases n <;> simp [dok] at h
theorem doks_lay : ∀ (n : Nat) (ds : List D), doks n ds = true → PyData.canLayAll0 (dpys ds) = true ∧ PyData.depthAll (dpys ds) ≤ n
  | n, [], _ => by simp [dpys, PyData.canLayAll0, PyData.depthAll]
  | n, d :: ds, h => by
    rw [doks, Bool.and_eq_true] at h
    obtain ⟨a, b⟩ := dok_lay n d h.1
    obtain ⟨a', b'⟩ := doks_lay n ds h.2
    simp only [dpys, PyData.canLayAll0, PyData.depthAll, a, a', Bool.and_self, true_and]
    omega
end
mutual
theorem dpy_eqv : ∀ (n k : Nat) (d e : D), dok n d = true → dok k e = true → (PyData.eqv (dpy d) (dpy e) = true ↔ d = e)
  | n, k, d, e, hd, he => by
    cases d <;> cases e <;> first
      | (cases n <;> simp [dok] at hd; done)
      | (cases k <;> simp [dok] at he; done)
      | (simp [dpy, PyData.eqv]; done)
      | skip
    · cases n <;> cases k <;> simp [dok] at hd he
      rename_i n k
      simp only [dpy, PyData.eqv, D.list.injEq]
      exact dpys_eqv _ _ _ _ hd he
    · cases n <;> cases k <;> simp [dok] at hd he
      rename_i n k
      simp only [dpy, PyData.eqv, D.tuple.injEq]
      exact dpys_eqv _ _ _ _ hd he
theorem dpys_eqv : ∀ (n k : Nat) (ds es : List D), doks n ds = true → doks k es = true → (PyData.eqvAll (dpys ds) (dpys es) = true ↔ ds = es)
  | _, _, [], [], _, _ => by simp [dpys, PyData.eqvAll]
  | _, _, [], _ :: _, _, _ => by simp [dpys, PyData.eqvAll]
  | _, _, _ :: _, [], _, _ => by simp [dpys, PyData.eqvAll]
  | n, k, d :: ds, e :: es, hd, he => by
    rw [doks, Bool.and_eq_true] at hd he
    simp only [dpys, PyData.eqvAll, Bool.and_eq_true, List.cons.injEq]
    rw [dpy_eqv n k d e hd.1 he.1, dpys_eqv n k ds es hd.2 he.2]
end
theorem dok_shaped {n : Nat} {d : D} (h : dok n d = true) (hn : n ≤ 64) : SeqAt.shaped (dpy d) = true := by
  obtain ⟨a, b⟩ := dok_lay n d h
  unfold SeqAt.shaped
  rw [a]
  simp; omega

section
variable {X : Cx} {W : List Addr} {ρ : List (Str × Ent)} {N : Nrm} {R : Rtn}
theorem cmp_neD {n k : Nat} {d e : D} {c : Bool} (hd : dok n d = true) (he : dok k e = true) (hn : n ≤ 64) (hk : k ≤ 64) (hc : c = true ↔ d = e) : CmpV X W .NotEq d e (!c) := by
  intro s va vb ρ F hs ra rb
  obtain ⟨as, r1⟩ := repT_reads ra hd
  obtain ⟨bs, r2⟩ := repT_reads rb he
  refine ne_dataH r1 r2 (dok_shaped hd hn) (dok_shaped he hk) (by have := F.uni; omega) ⟨.refl .., ?_⟩
  have := dpy_eqv n k d e hd he
  congr 2
  rw [Bool.eq_iff_iff, this, hc]

theorem ev_not {l : Lv} {e : Expr} {b : Bool} {pos : Pos} (h : Ev X W ρ l e (.bool b)) : Ev X W ρ .f (.UnaryOp .Not e pos) (.bool (!b)) := fun s hs => by
  refine wpAny_UnaryOp (wpAny_mono (h s hs) (fun v s₁ k => ?_) fun _ _ x => x)
  rw [repT_bool k.2.toT]
  exact not_of (wpAny_truthy_bool ⟨k.1, .bool _, fun _ e => by cases e⟩)

/-- list(range(..)) -/
theorem ev_listOf {p pos : Pos} {e : Expr} {a b : Int} {n : Nat} (F : Fine X) (hb : b = a + n) (hm : ((Str.ofString "list" : Str), Ent.gl (.type "list")) ∈ ρ) (hr : ∀ s, Ok X W ρ s → wpAny X.M X.A (eval e X.env) (fun v s' => SExt [] s s' ∧ ∃ r t u w, v = .ref r ∧ IsRange s'.heap r a b 1 t u w) NoE s)
    (h1 : -(2 ^ 61) ≤ a) (h2 : a < 2 ^ 61) (hn : n ≤ 1000000)
    (hse : ∀ env, starEach [e] env = [(false, eval e env)] := by intro _; rfl) : Ev X W ρ .f (.Call (.Name (Str.ofString "list") p) [e] [] pos) (.list (rangeD a b)) := fun s hs => by
  refine name_Q F hs hm (by decide +kernel) fun s₁ k₁ => ?_
  refine callWith_Q (V := fun vs h => ∃ r t u w, vs = [.ref r] ∧ IsRange h r a b 1 t u w) F (hs.mono k₁) (wpAny_items_cons (wpAny_mono (hr s₁ (hs.mono k₁)) (fun v s₂ k => wpAny_items_nil ⟨k.1, ?_⟩) fun _ _ x => x) (by rw [hse]; rfl)) keepOk_type (fun vs s₂ k₂ hv => ?_) (by rw [hse]; rfl)
  · obtain ⟨r, t, u, w, rfl, q⟩ := k.2
    exact ⟨r, t, u, w, rfl, q⟩
  obtain ⟨r, t, u, w, rfl, q⟩ := hv
  have hsz : Builtin.Range.rangeSize a b 1 = (n : Int) := by rw [rangeSize_one]; split <;> omega
  refine call_list_range F.hnd q (small_one (by omega) (by omega) (by omega) (by omega)) hsz (by omega) fun h' tk acc c hk hl hi => ?_
  have ks := k₁.trans k₂
  have hs₂ := hs.mono ks
  have rp : Reps W h' acc.toList (rangeD a b) := by
    have hlen : acc.toList.length = (rangeD a b).length := by
      have : (b - a).toNat = n := by omega
      simp [rangeD, hi.1, this]
    have key : ∀ (vs : List Value) (ds : List D), vs.length = ds.length → (∀ i (h1 : i < vs.length) (h2 : i < ds.length), Rep W h' vs[i] ds[i]) → Reps W h' vs ds := by
      intro vs
      induction vs with
      | nil => intro ds hl _; cases ds with
        | nil => exact .nil
        | cons _ _ => simp at hl
      | cons v vs ih => intro ds hl hx; cases ds with
        | nil => simp at hl
        | cons d ds => exact .cons (hx 0 (by simp) (by simp)) (ih ds (by simpa using hl) fun i h1 h2 => hx (i + 1) (by simpa using h1) (by simpa using h2))
    refine key _ _ hlen fun i h1 h2 => ?_
    have h1' : i < acc.size := by simpa using h1
    obtain ⟨tk, e⟩ := hi.2 i acc[i] (by simp [h1'])
    have e2 : acc.toList[i] = .int (a + (i : Int) * 1) tk := by simpa using e
    rw [e2]
    have e3 : (rangeD a b)[i] = .int (a + (i : Int)) := by simp [rangeD]
    rw [e3, Int.mul_one]
    exact .int _ _
  have fr : s.heap.get? s₂.heap.objs.size = Option.none := by
    cases z : s.heap.get? s₂.heap.objs.size with
    | none => rfl
    | some o => have := ks.ext.strict _ _ z; rw [get_size] at this; cases this
  have hw : s₂.heap.objs.size ∉ W := fun z => by obtain ⟨o, e⟩ := hs₂.wal _ z; rw [get_size] at e; cases e
  refine ⟨ks.trans ⟨.of_keep hk, rfl, rfl⟩, .list (vs := acc.toList) ⟨c, by simpa using hl⟩ hw rp, fun b e => by cases e; exact fr⟩
theorem ev_listRange {p q r pos : Pos} {l : Lv} {e : Expr} {n : Nat} {m : Int} (F : Fine X) (hm : ((Str.ofString "list" : Str), Ent.gl (.type "list")) ∈ ρ) (hm' : ((Str.ofString "range" : Str), Ent.gl (.type "range")) ∈ ρ) (h : Ev X W ρ l e (.int m)) (hmn : m = (n : Int)) (hn : n ≤ 1000000)
    (hse : ∀ env, starEach [e] env = [(false, eval e env)] := by intro _; rfl) :
    Ev X W ρ .f (.Call (.Name (Str.ofString "list") p) [.Call (.Name (Str.ofString "range") q) [e] [] r] [] pos) (.list ((List.range n).map natD)) := by
  subst hmn
  rw [← rangeD_nat]
  refine ev_listOf (n := n) F (by omega) hm (fun s hs => ?_) (by decide) (by decide) hn
  refine name_Q F hs hm' (by decide +kernel) fun s₁ k₁ => ?_
  refine callWith_Q (V := fun vs h => RepTs W h vs [.int (n : Int)]) F (hs.mono k₁) (evTs_cons h evTs_nil (hse _) r s₁ (hs.mono k₁)) keepOk_type (fun vs s₂ k₂ hv => ?_) (by rw [hse]; rfl)
  obtain ⟨v, rfl, rr⟩ := repTs_one hv
  obtain ⟨t, rfl⟩ := repT_int rr
  exact call_range_1 ⟨(k₁.trans k₂).trans ⟨(Ext.refl ..).push _, rfl, rfl⟩, _, _, _, _, rfl, IsRange.new ..⟩

/-- x[i] = e for an own list -/
theorem assign_item {x : Str} {p tp pos : Pos} {ei e : Expr} {l l' : Lv} {a : Addr} {ns : List Int} {k v : Int} {ρ' : List (Str × Ent)} {rest : List Stmt} (F : Fine X) (hx : (x, Ent.own a ns) ∈ ρ) (h : Ev X W ρ l' e (.int v)) (hi : Ev X W ρ l ei (.int k)) (h0 : 0 ≤ k) (hk : k < ns.length) (hz : ns.length ≤ 1000000)
    (hp : Put ρ x (.own a (ns.set k.toNat v)) ρ') (n : Blk X W ρ' rest N R) (hn : okName x = true := by decide +kernel)
    (hs : ∀ env, swapsWith e (some (.Subscript (.Name x p) ei tp)) pos.line env = pure false := by intro _; rfl) :
    Blk X W ρ (.Assign [.Subscript (.Name x p) ei tp] e pos :: rest) N R := blk_cons fun P s ok => by
  refine wpAny_Assign_Subscript (wpAny_mono (h s ok.ok) (fun v' s₁ k₁ => ?_) fun _ _ x => x) (hs _)
  obtain ⟨u, rfl⟩ := repT_int k₁.2.toT
  have ok₁ := ok.mono k₁.1
  obtain ⟨h1, vs, hl, hr⟩ := own_val ok₁ hx
  refine wpAny_Name (load1 F.kind h1 ?_ (okName_d hn).2) (okName_d hn).1
  refine wpAny_mono (hi s₁ ok₁.ok) (fun iv s₂ k₂ => ?_) fun _ _ x => x
  obtain ⟨t, rfl⟩ := repT_int k₂.2.toT
  exact set_item (ok₁.mono k₂.1) hx h0 hk hz hp fun s' ok' => n P s' ok'

end
end Mine


set_option maxHeartbeats 4000000

namespace Mine
open PySem PyProof.Rows

/-- all kept but a -/
structure KB (a : Addr) (s s' : Shared) : Prop where
  keep : ∀ b o, b ≠ a → s.heap.get? b = some o → s'.heap.get? b = some o
  gens : s'.gens = s.gens
  os : s'.os = s.os
theorem KB.ext {a : Addr} {s s' s'' : Shared} (x : KB a s s') (y : SExt [] s' s'') : KB a s s'' := ⟨fun b o n e => y.ext.strict _ _ (x.keep b o n e), y.gens.trans x.gens, y.os.trans x.os⟩
/-- an old state, the list was not there -/
theorem KB.from {a : Addr} {s₀ s s' : Shared} (x : KB a s s') (y : SExt [] s₀ s) (ha : s₀.heap.get? a = Option.none) : SExt [] s₀ s' :=
  ⟨.of_keep fun b o e => x.keep b o (fun z => by subst z; rw [ha] at e; cases e) (y.ext.strict _ _ e), x.gens.trans y.gens, x.os.trans y.os⟩

section
variable {prog : Program} {w : World} {A : Around} {E : Value → Shared → Prop} {s : Shared}
end
end Mine


set_option maxHeartbeats 4000000

namespace Mine
open PySem PyProof.Rows

/-! ### tuples as targets -/
inductive PutVU : List (Str × Ent) → List Str → List D → List (Str × Ent) → Prop
  | nil {ρ : List (Str × Ent)} : PutVU ρ [] [] ρ
  | cons {ρ ρ₁ ρ₂ : List (Str × Ent)} {x : Str} {d : D} {xs : List Str} {ds : List D} : PutU ρ x (.val true d) ρ₁ → PutVU ρ₁ xs ds ρ₂ → PutVU ρ (x :: xs) (d :: ds) ρ₂
theorem PutVU.put {ρ ρ' : List (Str × Ent)} {xs : List Str} {ds : List D} (h : PutVU ρ xs ds ρ') : PutV ρ xs ds ρ' := by
  induction h with
  | nil => exact .nil
  | cons p _ ih => exact .cons p.put ih
theorem PutVU.back {ρ ρ' : List (Str × Ent)} {xs : List Str} {ds : List D} (h : PutVU ρ xs ds ρ') : Back ρ' ρ := by
  induction h with
  | nil => exact fun s X W ok => ok
  | cons p _ ih => exact fun s X W ok => p.back rfl s X W (ih s X W ok)
theorem PutVU.noOwn {ρ ρ' : List (Str × Ent)} {xs : List Str} {ds : List D} (h : PutVU ρ xs ds ρ') (n : NoOwn ρ) : NoOwn ρ' := by
  induction h with
  | nil => exact n
  | cons p _ ih => exact ih (p.noOwn (fun _ _ e => by cases e) n)
section
variable {X : Cx} {W : List Addr} {ρ : List (Str × Ent)} {N : Nrm} {R : Rtn}
/-! ### sorted pairs -/
end
end Mine



namespace Mine
open PySem PyProof.Rows
section
variable {X : Cx} {W : List Addr} {ρ : List (Str × Ent)} {N : Nrm} {R : Rtn}
end
end Mine



namespace Mine
open PySem PyProof.Rows PySem.Builtin

theorem ck_bestBase : Slots.bestBase [.type "object"] = pure (.type "object") := by kernel_rfl
theorem ck_slotNames : Slots.slotNamesOf (.type "object") = pure [] := by kernel_rfl
theorem ck_givesDict : Slots.givesDict (.type "object") = pure false := by kernel_rfl
theorem ck_givesWeak : Slots.givesWeak (.type "object") = pure false := by kernel_rfl
theorem ck_varSize : Slots.varSize (.type "object") = pure false := by kernel_rfl
theorem ck_extended : extendedBase [.type "object"] = pure (.type "object") := by kernel_rfl
theorem ck_mroHook : mroHook? (.type "type") = pure none := by kernel_rfl
theorem ck_linearize : linearize [.type "object"] mroOf = pure [.type "object"] := by kernel_rfl
theorem ck_turned : notOverATurnedClass [.type "object"] = pure () := by kernel_rfl
theorem ck_madeBy : Bind.madeBy (.type "object") = pure (some "object.__new__") := by kernel_rfl
theorem ck_madeByT : Bind.madeBy (.type "type") = pure (some "type.__new__") := by kernel_rfl
theorem ck_sub_tt : isSubtype (.type "type") (.type "type") = pure true := by kernel_rfl
theorem ck_sub_tup : isSubtype (.type "tuple") (.type "tuple") = pure true := by kernel_rfl
theorem ck_sub_dict : isSubtype (.type "dict") (.type "dict") = pure true := by kernel_rfl
theorem ck_typeOfObject : typeOf (.type "object") = pure (.type "type") := by kernel_rfl
theorem ck_diter : typeLookup (.type "dict") "__iter__" = pure (some (.builtin "dict.__iter__")) := by kernel_rfl
theorem mkStrK {M : Model} {A : Around} {E : Value → Shared → Prop} {h : Heap} {g : Array GenState} {d : Drawn} {t : Nat} {os : OsState} {x : Str} {Q : Value → Shared → Prop} (hx : x.length ≤ sizeLine) (hq : Q (.str x t) ⟨h, g, d, t + 1, os⟩) : wpAny M A (mkStr x) Q E ⟨h, g, d, t, os⟩ := wpAny_mkStr' hq hx
section
variable {M : Model} {A : Around} {E : Value → Shared → Prop} {s : Shared}
theorem at_load {a : Addr} {Q : Obj → Shared → Prop} (x : wpAny M A (load a) Q E s) : wpAny M A (load a) Q E s := x
theorem at_loadPart {a : Addr} {part : Option Value} {Q : Obj → Shared → Prop} (x : wpAny M A (loadPart a part) Q E s) : wpAny M A (loadPart a part) Q E s := x
theorem at_update {a : Addr} {f : Obj → Obj} {Q : Unit → Shared → Prop} (x : wpAny M A (update a f) Q E s) : wpAny M A (update a f) Q E s := x
theorem at_updatePart {a : Addr} {part : Option Value} {f : Obj → Obj} {Q : Unit → Shared → Prop} (x : wpAny M A (updatePart a part f) Q E s) : wpAny M A (updatePart a part f) Q E s := x
end
end Mine


local macro_rules | `(tactic| walk_at "c_step") => `(tactic| first
  | with_reducible (first | refine wpAny_pure ?_ | refine wpAny_bind ?_ | refine wpAny_holding ?_ | refine wpAny_rule ?_ | refine wpAny_mkInt' ?_ | (refine Mine.mkStrK ?_ ?_; focus (size_fits; done)) | refine wpAny_fresh' ?_ | refine wpAny_alloc' ?_ | refine wpAny_of_eq (by assumption) ?_ | refine wpAny_typeOf (by assumption) ?_ | refine wpAny_isInstance (by assumption) (by assumption) ?_)
  | ((with_reducible refine Mine.at_load ?_); (with_reducible apply wpAny_load'); focus (heap_get; done))
  | ((with_reducible refine Mine.at_loadPart ?_); (with_reducible apply wpAny_loadPart'); focus (heap_get; done))
  | ((with_reducible refine Mine.at_updatePart ?_); (with_reducible apply wpAny_updatePart'); focus (heap_get; done))
  | ((with_reducible refine Mine.at_update ?_); (with_reducible apply wpAny_update'); focus (heap_get; done))
  | ((with_reducible refine wpAny_ite_false ?_ ?_); focus (rfl; done))
  | ((with_reducible refine wpAny_ite_true ?_ ?_); focus (rfl; done))
  | wp_delta)
set_option pp.deepTerms false
set_option pp.deepTerms.threshold 3

namespace Mine
open PySem PyProof.Rows PySem.Builtin

section
variable {prog : Program} {w : World} {A : Around} {E : Value → Shared → Prop} {h : Heap} {g : Array GenState} {d : Drawn} {t : Nat} {os : OsState}

theorem nsFind_find {es : Array DictEntry} {n : Str} {v : Value} (h : nsFind es n = some v) : ∃ e, es.find? (·.key.isStr n) = some e ∧ e.val = v := by
  unfold nsFind findBy at h
  simpa [Option.map_eq_some_iff] using h
theorem nsFind_any {es : Array DictEntry} {n : Str} (h : nsFind es n = none) : es.any (·.key.isStr n) = false := by
  unfold nsFind findBy at h
  rw [Option.map_eq_none_iff, Array.find?_eq_none] at h
  rw [Array.any_eq_false']
  intro e he
  exact h e he

theorem slots_read {es : Array DictEntry} {sl : Addr} {tk : Tok} {Q : Slots.Plan → Shared → Prop} (hf : nsFind es "__slots__" = some (.ref sl)) (hsl : h.get? sl = some { cls := .type "list", data := .seq #[.str "obj" tk] })
    (ho : nsFind es "obj" = none) (hq : ∀ h', (∀ b o', h.get? b = some o' → h'.get? b = some o') → Q { names := ["obj"], dict := false, weak := false, inherited := [] } ⟨h', g, d, t, os⟩) :
    wpAny (model prog w) A (Slots.read "K" [.type "object"] es) Q E ⟨h, g, d, t, os⟩ := by
  obtain ⟨e, he, hv⟩ := nsFind_find hf
  have ha := nsFind_any ho
  have e1 := ck_bestBase
  have e2 := ck_slotNames
  have e3 := ck_givesDict
  have e4 := ck_givesWeak
  have e5 := ck_varSize
  unfold Slots.read
  iterate 10 walk_at "c_step"
  rw [he]
  dsimp only
  rw [hv]
  iterate 9 walk_at "c_step"
  refine wpAny_collect_seq sl (T := "list") (items := #[.str "obj" tk]) (Or.inl (Eq.refl "list")) hsl (Eq.refl (Value.type "list")) (Eq.refl (Data.seq #[.str "obj" tk] 0)) ?_
  intro h' k
  repeat walk_at "c_step"
  rw [show Slots.isIdentifier (Str.ofString "obj") = some true from by decide +kernel]
  repeat walk_at "c_step"
  have hc : es.any (fun e => e.key.isStr (Slots.mangle "K" "obj")) = false := by rw [show Slots.mangle "K" "obj" = "obj" from by decide +kernel]; exact ha
  refine wpAny_ite_false ?_ ?_
  · refine decide_eq_false fun z => ?_
    have z1 := (Bool.and_eq_true_iff.mp z).1
    exact Bool.noConfusion (z1.symm.trans hc)
  repeat walk_at "c_step"
  exact hq h' k
end
end Mine


set_option pp.deepTerms false
set_option pp.deepTerms.threshold 3

namespace Mine
open PySem PyProof.Rows PySem.Builtin

section
variable {prog : Program} {w : World} {A : Around} {E : Value → Shared → Prop} {h : Heap} {g : Array GenState} {d : Drawn} {t : Nat} {os : OsState}

theorem ns_get {M : Model} {a : Addr} {m : Str → Option Value} {name : Str} {Q : Option Value → Shared → Prop} (hn : h.Ns1 a m) (hq : Q (m name) ⟨h, g, d, t, os⟩) : wpAny M A (nsGet a name) Q E ⟨h, g, d, t, os⟩ :=
  wpAny_nsGet (s := ⟨h, g, d, t, os⟩) hn.ns hq
theorem ns_set {M : Model} {a : Addr} {m : Str → Option Value} {name : Str} {v : Value} {Q : Unit → Shared → Prop} (hn : h.Ns1 a m)
    (hq : ∀ h', h'.Ns1 a (fun x => if x = name then some v else m x) → Heap.SameBut a h h' → Q () ⟨h', g, d, t + 1, os⟩) : wpAny M A (nsSet a name v) Q E ⟨h, g, d, t, os⟩ :=
  wpAny_nsSet1 (s := ⟨h, g, d, t, os⟩) hn hq
theorem ns_del {M : Model} {a : Addr} {m : Str → Option Value} {name : Str} {Q : Bool → Shared → Prop} (hn : h.Ns1 a m)
    (hq : ∀ h', h'.Ns1 a (fun x => if x = name then none else m x) → Heap.SameBut a h h' → Q (m name).isSome ⟨h', g, d, t, os⟩) : wpAny M A (nsDel a name) Q E ⟨h, g, d, t, os⟩ :=
  wpAny_nsDel1 (s := ⟨h, g, d, t, os⟩) hn hq

theorem keys_few : ∀ (l : List DictEntry) (L : List Str), (l.Pairwise fun a b => ∀ n, a.key.isStr n = true → b.key.isStr n = true → False) → (∀ e ∈ l, ∃ n, e.key.isStr n = true ∧ n ∈ L) → l.length ≤ L.length
  | [], L, _, _ => Nat.zero_le _
  | e :: l, L, hp, hm => by
    obtain ⟨n, hn, hL⟩ := hm e (.head _)
    rw [List.pairwise_cons] at hp
    have := keys_few l (L.erase n) hp.2 fun e' he' => by
      obtain ⟨n', h1, h2⟩ := hm e' (.tail _ he')
      refine ⟨n', h1, ?_⟩
      have hne : n' ≠ n := fun z => by subst z; exact hp.1 e' he' n' hn h1
      exact (List.mem_erase_of_ne hne).mpr h2
    rw [List.length_erase_of_mem hL] at this
    have hpos : 0 < L.length := List.length_pos_of_mem hL
    rw [List.length_cons]; omega
/-- a dict whose names lie in a short list -/
theorem ns_few {a : Addr} {m : Str → Option Value} (hn : h.Ns1 a m) (L : List Str) (hL : ∀ n, m n ≠ none → n ∈ L) : ∀ o es ep, h.get? a = some o → o.data = .dict es ep → es.size ≤ L.length := by
  intro o es ep ho hd
  obtain ⟨o', es', ep', ho', hd', hk, hu, hm⟩ := hn
  rw [ho'] at ho
  cases ho
  rw [hd'] at hd
  cases hd
  rw [← Array.length_toList]
  refine keys_few _ _ hu fun e he => ?_
  obtain ⟨n, tn, hkn⟩ := hk e (by simpa using he)
  refine ⟨n, by rw [hkn]; simp [Value.isStr], hL n fun z => ?_⟩
  have := nsFind_any ((hm n).trans z)
  rw [Array.any_eq_false'] at this
  exact this e (by simpa using he) (by rw [hkn]; simp [Value.isStr])
/-- each entry of such a dict is what its name tells -/
theorem ns_vals {es : Array DictEntry} {m : Str → Option Value} (hk : StrKeys es) (hu : UniqKeys es) (hm : ∀ n, nsFind es n = m n) : ∀ e ∈ es, ∃ n tn, e.key = .str n tn ∧ m n = some e.val := by
  intro e he
  obtain ⟨n, tn, hkn⟩ := hk e he
  refine ⟨n, tn, hkn, ?_⟩
  have hs : e.key.isStr n = true := by rw [hkn]; simp [Value.isStr]
  rw [← hm n]
  unfold nsFind findBy
  have key : ∀ l : List DictEntry, (l.Pairwise fun a b => ∀ n, a.key.isStr n = true → b.key.isStr n = true → False) → e ∈ l → l.find? (fun x => x.key.isStr n) = some e := by
    intro l
    induction l with
    | nil => intro _ h; cases h
    | cons x l ih =>
      intro hp hx
      rw [List.pairwise_cons] at hp
      rcases List.mem_cons.mp hx with rfl | hx
      · rw [List.find?_cons, hs]
      · rw [List.find?_cons]
        cases q : x.key.isStr n with
        | true => exact (hp.1 e hx n q hs).elim
        | false => exact ih hp.2 hx
  have := key es.toList hu (by simpa using he)
  rw [Array.find?_toList] at this
  rw [this]; rfl

theorem ns_setv {a : Addr} {m : Str → Option Value} {name : Str} {v : Value} {Q : Unit → Shared → Prop} (hn : h.Ns1 a m) (L : List Str) (hL : ∀ n, m n ≠ none → n ∈ L) (hl : L.length ≤ 100)
    (hq : ∀ h', h'.Ns1 a (fun x => if x = name then some v else m x) → Heap.SameBut a h h' → Q () ⟨h', g, d, t + 1, os⟩) : wpAny (model prog w) A (nsSetByValue a name v) Q E ⟨h, g, d, t, os⟩ := by
  obtain ⟨o, es, ep, ho, hd, _⟩ := id hn
  have hs := ns_few hn L hL o es ep ho hd
  unfold nsSetByValue
  refine wpAny_bind (wpAny_loadPart' ho ?_)
  rw [hd]
  dsimp only
  refine wpAny_ite_false ?_ ?_
  · refine decide_eq_false fun z => ?_
    have z1 := of_decide_eq_true (Bool.and_eq_true_iff.mp z).1
    have : (100 : Nat) < sizeLine := by decide
    omega
  repeat (first | exact ns_set hn hq | walk_at "c_step")

noncomputable def pastM (x : Option String) : Sem Unit := match x with
  | some what => unsupported what
  | _ => pure ()
theorem pastM_none {x : Option String} (hx : x = none) : pastM x = pure () := by subst hx; rfl
theorem slots_install {a ns : Addr} {m : Str → Option Value} {oC : Obj} {c0 : ClassData} {Q : Unit → Shared → Prop}
    (hC : h.get? a = some oC) (hCd : oC.data = .cls c0) (hn : h.Ns1 ns m) (hne : a ≠ ns) (ho : m "obj" = none) (L : List Str) (hL : ∀ n, m n ≠ none → n ∈ L) (hl : L.length ≤ 100)
    (hpl : (Data.cls { c0 with hasDict := false, slotNames := ["obj"] }).pastItsLine = none)
    (hq : ∀ h' t' dsc tk, h'.Ns1 ns (fun x => if x = "obj" then some (.ref dsc) else m x) → h'.get? dsc = some { cls := .type "member_descriptor", data := .fields #[.str "obj" tk, .ref a, .builtin "proto.slot", .builtin "proto.slot#set", rawInt 0] } → h.get? dsc = none →
      h'.get? a = some { oC with data := .cls { c0 with hasDict := false, slotNames := ["obj"] } } → (∀ b o, b ≠ a → b ≠ ns → h.get? b = some o → h'.get? b = some o) → Q () ⟨h', g, d, t', os⟩) :
    wpAny (model prog w) A (Slots.install (.ref a) ns [.type "object"] { names := ["obj"], dict := false, weak := false, inherited := [] }) Q E ⟨h, g, d, t, os⟩ := by
  obtain ⟨oc, od, odt, osl⟩ := oC
  dsimp only at hCd
  subst hCd
  have e3 := ck_givesDict
  unfold Slots.install
  repeat (first | (with_reducible refine ns_get hn ?_; rw [ho]) | (with_reducible refine ns_setv (hn.at fun o e => Heap.get?_push_of_some _ e) L hL hl ?_; intro h1 n1 s1) | walk_at "c_step")
  have hl0 : h.objs.size ≠ ns := Nat.ne_of_gt hn.ns.lt
  have ha0 : h.objs.size ≠ a := Nat.ne_of_gt (Heap.lt_size hC)
  have ha1 : h1.get? a = some ⟨oc, od, .cls c0, osl⟩ := (s1.2 a hne).trans (Heap.get?_push_of_some _ hC)
  refine wpAny_load' ha1 ?_
  dsimp only
  refine wpAny_bind (wpAny_update' ha1 ?_)
  unfold lookBehind
  refine wpAny_bind (wpAny_loadPart' (Heap.get?_update_self _ ha1 rfl) ?_)
  refine wpAny_of_eq (a := ()) (show pastM _ = pure () from pastM_none hpl) ?_
  refine hq _ _ h.objs.size _ (n1.at fun o e => Heap.get?_update_of_ne _ hne e) (Heap.get?_update_of_ne _ ha0.symm ((s1.2 _ hl0).trans (Heap.get?_push_size _ rfl))) (get_size h) (Heap.get?_update_self _ ha1 rfl) fun b o hb1 hb2 e => Heap.get?_update_of_ne _ hb1.symm ((s1.2 _ hb2).trans (Heap.get?_push_of_some _ e))
end
end Mine


namespace Mine
open PySem PyProof.Rows PySem.Builtin
theorem upd3 {H : Heap} {C : Addr} {f1 f2 f3 : Obj → Obj} {o o1 o2 o3 : Obj} (e : H.get? C = some o) (e1 : f1 o = o1) (e2 : f2 o1 = o2) (e3 : f3 o2 = o3) (h1 : o1.isFreed = false) (h2 : o2.isFreed = false) (h3 : o3.isFreed = false) :
    (((H.update C f1).update C f2).update C f3).get? C = some o3 := by
  subst e1 e2 e3
  exact Heap.get?_update_self _ (Heap.get?_update_self _ (Heap.get?_update_self _ e h1) h2) h3
theorem upd3_ne {H : Heap} {C b : Addr} {f1 f2 f3 : Obj → Obj} {o : Obj} (hb : C ≠ b) (e : H.get? b = some o) : (((H.update C f1).update C f2).update C f3).get? b = some o :=
  Heap.get?_update_of_ne _ hb (Heap.get?_update_of_ne _ hb (Heap.get?_update_of_ne _ hb e))
theorem sl2 (u v : Value) : ((#[some u] : Array (Option Value)) ++ Array.replicate (2 + 1 - (#[some u] : Array (Option Value)).size) none).setIfInBounds 2 (some v) = #[some u, none, some v] := by first | rfl | simp
end Mine


set_option pp.deepTerms false
set_option pp.deepTerms.threshold 3

namespace Mine
open PySem PyProof.Rows PySem.Builtin

section
variable {prog : Program} {w : World} {A : Around} {E : Value → Shared → Prop} {h : Heap} {g : Array GenState} {d : Drawn} {t : Nat} {os : OsState} {s : Shared}

theorem own_mro {M : Model} {C : Addr} {o : Obj} {cd : ClassData} {l : List Value} {Q : List Value → Shared → Prop} (hC : h.get? C = some o) (hd : o.data = .cls cd) (hm : cd.mro = l) (hq : Q l ⟨h, g, d, t, os⟩) :
    wpAny M A (mroOf (.ref C)) Q E ⟨h, g, d, t, os⟩ := by
  unfold mroOf classData
  refine wpAny_bind (wpAny_bind (wpAny_load' hC ?_))
  rw [hd]
  refine wpAny_pure (wpAny_pure ?_)
  rw [hm]; exact hq
theorem own_own {M : Model} {C : Addr} {o : Obj} {cd : ClassData} {m : Str → Option Value} {name : Str} {Q : Option Value → Shared → Prop} (hC : h.get? C = some o) (hd : o.data = .cls cd) (hN : h.Ns cd.ns m) (hq : Q (m name) ⟨h, g, d, t, os⟩) :
    wpAny M A (classOwn (.ref C) name) Q E ⟨h, g, d, t, os⟩ := by
  unfold classOwn classData
  refine wpAny_bind (wpAny_bind (wpAny_load' hC ?_))
  rw [hd]
  exact wpAny_pure (wpAny_nsGet (s := ⟨h, g, d, t, os⟩) hN hq)
theorem own_lookup {M : Model} {C : Addr} {o : Obj} {cd : ClassData} {m : Str → Option Value} {name : Str} {y : Option Value} {Q : Option Value → Shared → Prop} (hC : h.get? C = some o) (hd : o.data = .cls cd)
    (hm : cd.mro = [.ref C, .type "object"]) (hN : h.Ns cd.ns m) (hB : classOwn (.type "object") name = pure y) (hq : Q (match m name with | some v => some v | none => y) ⟨h, g, d, t, os⟩) :
    wpAny M A (typeLookup (.ref C) name) Q E ⟨h, g, d, t, os⟩ := by
  rw [typeLookup_eq]
  refine wpAny_bind (own_mro hC hd hm ?_)
  rw [lookupAlong_cons]
  refine wpAny_bind (own_own hC hd hN ?_)
  cases hv : m name with
  | some v => rw [hv] at hq; exact wpAny_pure hq
  | none =>
    rw [hv] at hq
    show wpAny _ _ (lookupAlong [.type "object"] name) _ _ _
    rw [lookupAlong_cons, hB]
    refine wpAny_bind (wpAny_pure ?_)
    cases y with
    | some v => exact wpAny_pure hq
    | none => exact wpAny_pure hq
theorem ck_obj_new : classOwn (.type "object") "__new__" = pure (some (.builtin "object.__new__")) := by kernel_rfl
theorem ck_obj_isub : classOwn (.type "object") "__init_subclass__" = pure (some (.builtin "object.__init_subclass__")) := by kernel_rfl
theorem ck_isub_type : typeOf (.builtin "object.__init_subclass__") = pure (.type "classmethod_descriptor") := by kernel_rfl
theorem ck_cmd_get : typeLookup (.type "classmethod_descriptor") "__get__" = pure (some (.builtin "classmethod_descriptor.__get__")) := by kernel_rfl
theorem st_refresh {C : Addr} {o : Obj} {cd : ClassData} {m : Str → Option Value} {Q : Unit → Shared → Prop} (hC : h.get? C = some o) (hd : o.data = .cls cd) (hm : cd.mro = [.ref C, .type "object"]) (hN : h.Ns cd.ns m)
    (hs : o.slots[4]? = some (some (.builtin "object.__new__"))) (hnew : m "__new__" = none) (hq : Q () ⟨h, g, d, t, os⟩) : wpAny M A (Bind.refreshMaker C) Q E ⟨h, g, d, t, os⟩ := by
  unfold Bind.refreshMaker slotAt
  refine wpAny_bind (wpAny_bind (wpAny_loadPart' hC (wpAny_pure ?_)))
  rw [hs]
  refine wpAny_ite_false ?_ ?_
  · rfl
  refine wpAny_bind (own_lookup hC hd hm hN ck_obj_new ?_)
  rw [hnew]
  refine wpAny_ite_false ?_ ?_
  · decide +kernel
  exact wpAny_pure hq
theorem upd2 {H : Heap} {C : Addr} {f1 f2 : Obj → Obj} {o o1 o2 : Obj} (e : H.get? C = some o) (e1 : f1 o = o1) (e2 : f2 o1 = o2) (h1 : o1.isFreed = false) (h2 : o2.isFreed = false) :
    ((H.update C f1).update C f2).get? C = some o2 := by
  subst e1 e2
  exact Heap.get?_update_self _ (Heap.get?_update_self _ e h1) h2
theorem upd2_ne {H : Heap} {C b : Addr} {f1 f2 : Obj → Obj} {o : Obj} (hb : C ≠ b) (e : H.get? b = some o) : ((H.update C f1).update C f2).get? b = some o :=
  Heap.get?_update_of_ne _ hb (Heap.get?_update_of_ne _ hb e)
theorem st_install {bs : List Value} {a ns : Addr} {m : Str → Option Value} {oC : Obj} {c0 : ClassData} {Q : Unit → Shared → Prop} (e : bs = [.type "object"])
    (hC : h.get? a = some oC) (hCd : oC.data = .cls c0) (hn : h.Ns1 ns m) (hne : a ≠ ns) (ho : m "obj" = none) (L : List Str) (hL : ∀ n, m n ≠ none → n ∈ L) (hl : L.length ≤ 100)
    (hpl : (Data.cls { c0 with hasDict := false, slotNames := ["obj"] }).pastItsLine = none)
    (hq : ∀ h' t' dsc tk, h'.Ns1 ns (fun x => if x = "obj" then some (.ref dsc) else m x) → h'.get? dsc = some { cls := .type "member_descriptor", data := .fields #[.str "obj" tk, .ref a, .builtin "proto.slot", .builtin "proto.slot#set", rawInt 0] } → h.get? dsc = none →
      h'.get? a = some { oC with data := .cls { c0 with hasDict := false, slotNames := ["obj"] } } → (∀ b o, b ≠ a → b ≠ ns → h.get? b = some o → h'.get? b = some o) → Q () ⟨h', g, d, t', os⟩) :
    wpAny (model prog w) A (Slots.install (.ref a) ns bs { names := ["obj"], dict := false, weak := false, inherited := [] }) Q E ⟨h, g, d, t, os⟩ := by
  subst e; exact slots_install hC hCd hn hne ho L hL hl hpl hq
theorem for_keep {M : Model} {α β : Type} {xs : Array α} {b : β} {f : α → β → Sem (ForInStep β)} {Q : β → Shared → Prop} (hf : ∀ e ∈ xs, ∀ Q : ForInStep β → Shared → Prop, Q (.yield b) s → wpAny M A (f e b) Q E s) (hq : Q b s) : wpAny M A (forIn xs b f) Q E s := by
  refine wpAny_forIn_array' f (fun l b' s' => (∀ e ∈ l, e ∈ xs) ∧ b' = b ∧ s' = s) Q ?_ ?_ xs b ⟨fun e he => by simpa using he, rfl, rfl⟩
  · rintro x rest b' s' ⟨hl, rfl, rfl⟩
    exact hf x (hl x (.head _)) _ ⟨fun e he => hl e (.tail _ he), rfl, rfl⟩
  · rintro b' s' ⟨_, rfl, rfl⟩; exact hq
end
end Mine


open PySem PySem.W PyProof.Rows PySem.W.X
set_option maxHeartbeats 4000000
set_option pp.deepTerms false
set_option pp.deepTerms.threshold 3

namespace Mine
open PySem PyProof.Rows PySem.Builtin

theorem mem_keep {h₀ h : Heap} {news : List (Addr × Obj)} (D : Mem h₀ h [] news) : ∀ b o, h₀.get? b = some o → h.get? b = some o := fun b o e => D.keep b o e (Bool.or_eq_true_iff.mpr (.inr rfl))
noncomputable abbrev superObj (C : Addr) : Obj := { cls := .type "super", data := .fields #[.ref C, .ref C, .ref C] }
noncomputable abbrev bfmObj (C : Addr) : Obj := { cls := .type "builtin_function_or_method", data := .fields #[.builtin "object.__init_subclass__", .ref C] }
noncomputable abbrev kObj (C N : Addr) (qn : Str) (k0 k2 k3 : Option Value) : Obj := { cls := .type "type", data := .cls { name := "K", bases := [.type "object"], mro := [.ref C, .type "object"], ns := N, qualname := qn, hasDict := false, slotNames := ["obj"], hasDel := false }, slots := #[k0, none, k2, k3, some (.builtin "object.__new__"), some (.bool false)] }

section
variable {prog : Program} {w : World} {A : Around} {E : Value → Shared → Prop} {h : Heap} {g : Array GenState} {d : Drawn} {t : Nat} {os : OsState} {s : Shared} {C N : Addr} {qn : Str} {k0 k2 k3 : Option Value}

local macro_rules | `(tactic| x_close) => `(tactic| exact ⟨_, _, rfl, rfl, (Mem.nw (by assumption) _ (List.mem_cons_self ..)).2, (Mem.nw (by assumption) _ (List.mem_cons_self ..)).1, mem_keep (by assumption)⟩)
theorem super_call {Q : Value → Shared → Prop} (hC : h.get? C = some (kObj C N qn k0 k2 k3))
    (hq : ∀ a h', h.get? a = none → h'.get? a = some (superObj C) → (∀ b o, h.get? b = some o → h'.get? b = some o) → Q (.ref a) ⟨h', g, d, t, os⟩) :
    wpAny (model prog w) A (call (.type "super") [.ref C, .ref C]) Q E ⟨h, g, d, t, os⟩ := by
  refine wpAny_mono (Q := fun v s' => ∃ a h', v = .ref a ∧ s' = ⟨h', g, d, t, os⟩ ∧ h.get? a = none ∧ h'.get? a = some (superObj C) ∧ (∀ b o, h.get? b = some o → h'.get? b = some o)) (E := fun _ _ => False) ?_ (fun v s' ⟨a, h', e1, e2, x, y, z⟩ => by rw [e1, e2]; exact hq a h' x y z) fun _ _ z => z.elim
  clear hq
  unfold kObj at hC
  x_run
theorem isub_get {Q : Value → Shared → Prop} (hC : h.get? C = some (kObj C N qn k0 k2 k3))
    (hq : ∀ a h', h.get? a = none → h'.get? a = some (bfmObj C) → (∀ b o, h.get? b = some o → h'.get? b = some o) → Q (.ref a) ⟨h', g, d, t, os⟩) :
    wpAny (model prog w) A (call (.builtin "classmethod_descriptor.__get__") [.builtin "object.__init_subclass__", .none, .ref C]) Q E ⟨h, g, d, t, os⟩ := by
  refine wpAny_mono (Q := fun v s' => ∃ a h', v = .ref a ∧ s' = ⟨h', g, d, t, os⟩ ∧ h.get? a = none ∧ h'.get? a = some (bfmObj C) ∧ (∀ b o, h.get? b = some o → h'.get? b = some o)) (E := fun _ _ => False) ?_ (fun v s' ⟨a, h', e1, e2, x, y, z⟩ => by rw [e1, e2]; exact hq a h' x y z) fun _ _ z => z.elim
  clear hq
  unfold kObj at hC
  x_run
end
section
variable {prog : Program} {w : World} {A : Around} {E : Value → Shared → Prop} {h : Heap} {g : Array GenState} {d : Drawn} {t : Nat} {os : OsState} {s : Shared} {C N : Addr} {qn : Str} {k0 k2 k3 : Option Value}
local macro_rules | `(tactic| x_close) => `(tactic| exact ⟨rfl, rfl⟩)
theorem isub_call {a : Addr} {Q : Value → Shared → Prop} (hC : h.get? C = some (kObj C N "cmp_to_key.<locals>.K" k0 k2 k3)) (ha : h.get? a = some (bfmObj C))
    (hq : Q .none ⟨h, g, d, t, os⟩) : wpAny (model prog w) A (call (.ref a) []) Q E ⟨h, g, d, t, os⟩ := by
  refine wpAny_mono (Q := fun v s' => v = .none ∧ s' = ⟨h, g, d, t, os⟩) (E := fun _ _ => False) ?_ (fun v s' ⟨e1, e2⟩ => by rw [e1, e2]; exact hq) fun _ _ z => z.elim
  clear hq
  unfold kObj at hC
  unfold bfmObj at ha
  x_run

theorem drop_self {C : Addr} : (([Value.ref C, .type "object"].dropWhile (· != .ref C)).drop 1) = [.type "object"] := by
  rw [List.dropWhile_cons_of_neg (by simp)]; rfl
theorem super_ga {so : Addr} {tk : Tok} {Q : PySem.Fin → Shared → Prop} (hC : h.get? C = some (kObj C N qn k0 k2 k3)) (hso : h.get? so = some (superObj C)) (hno : Looks (model prog w) h (opaqueClassAbove (.ref C)) none)
    (hq : ∀ a h', h.get? a = none → h'.get? a = some (bfmObj C) → (∀ b o, h.get? b = some o → h'.get? b = some o) → Q (.done (.ret (.ref a))) ⟨h', g, d, t, os⟩) :
    wpAny (model prog w) A (Builtin.«super.__getattribute__» ⟨[.ref so, .str "__init_subclass__" tk], []⟩) Q E ⟨h, g, d, t, os⟩ := by
  have hdt : (superObj C).data = .fields #[.ref C, .ref C, .ref C] := rfl
  have f0 : (#[.ref C, .ref C, .ref C] : Array Value)[0]? = some (.ref C) := rfl
  have f1 : (#[.ref C, .ref C, .ref C] : Array Value)[1]? = some (.ref C) := rfl
  have f2 : (#[.ref C, .ref C, .ref C] : Array Value)[2]? = some (.ref C) := rfl
  have hCC : (Value.ref C == Value.ref C) = true := by simp
  unfold Builtin.«super.__getattribute__»
  repeat (first
    | (with_reducible refine wpAny_field hso hdt f0 ?_) | (with_reducible refine wpAny_field hso hdt f1 ?_) | (with_reducible refine wpAny_field hso hdt f2 ?_)
    | (with_reducible refine ks_wpAny_notOpaque hno ?_)
    | (with_reducible refine own_mro hC rfl rfl ?_; rw [drop_self, List.forIn_cons])
    | (with_reducible refine isub_get hC ?_; intro a h' x y z)
    | (with_reducible refine wpAny_of_eq ck_obj_isub ?_)
    | (with_reducible refine wpAny_of_eq ck_isub_type ?_)
    | (with_reducible refine wpAny_of_eq ck_cmd_get ?_)
    | (simp only [hCC, if_true])
    | wp_step
    | dsimp only)
  all_goals exact hq _ _ (by assumption) (by assumption) (by assumption)

theorem super_attr {so : Addr} {Q : Value → Shared → Prop} (hC : h.get? C = some (kObj C N qn k0 k2 k3)) (hso : h.get? so = some (superObj C)) (hno : Looks (model prog w) h (opaqueClassAbove (.ref C)) none)
    (hq : ∀ a h' t', h.get? a = none → h'.get? a = some (bfmObj C) → (∀ b o, h.get? b = some o → h'.get? b = some o) → Q (.ref a) ⟨h', g, d, t', os⟩) :
    wpAny (model prog w) A (getAttr (.ref so) "__init_subclass__") Q E ⟨h, g, d, t, os⟩ := by
  have hlk := F.ks_slot_super_ga.lookup
  have hT : ∀ t', (⟨h, g, d, t', os⟩ : Shared).TypeIs (.ref so) "super" := fun _ => ⟨_, hso, rfl⟩
  unfold getAttr getAttrBy
  refine wpAny_bind (wpAny_mkText (wpAny_holding (wpAny_bind (wpAny_typeOf (hT _) (wpAny_bind (wpAny_of_eq hlk ?_))))))
  show wpAny _ _ (getAttrByItsOwn (.ref so) (.str "__init_subclass__" t) (.type "super") (.builtin "super.__getattribute__") true false) _ _ _
  unfold getAttrByItsOwn hookBefore callGetattribute boundAndCalled
  refine wpAny_bind (wpAny_of_eq (show (if onTheHeap (.type "super") then typeLookup (.type "super") "__getattr__" else pure none) = pure none from rfl) ?_)
  refine wpAny_bind (wpAny_attempt (wpAny_holding ?_))
  show wpAny _ _ (bindSpecial (.builtin "super.__getattribute__") (.ref so) >>= _) _ _ _
  refine wpAny_bind (wpAny_of_eq (F.ks_slot_super_ga.bind _) ?_)
  refine wpAny_mono (Q := fun v s' => ∃ a h', v = .ref a ∧ s' = ⟨h', g, d, t + 1, os⟩ ∧ h.get? a = none ∧ h'.get? a = some (bfmObj C) ∧ (∀ b o, h.get? b = some o → h'.get? b = some o)) (E := fun _ _ => False)
    (wpAny_call_entry F.ks_slot_super_ga (hT _) F.ks_entry_super_ga (super_ga hC hso hno fun a h' x y z => ⟨_, rfl, a, h', rfl, rfl, x, y, z⟩) (F.ks_gaArgs_super _ _)) (fun v s' hv => ?_) fun _ _ z => z.elim
  obtain ⟨a, h', rfl, rfl, x, y, z⟩ := hv
  first | exact wpAny_pure (wpAny_pure (hq a h' _ x y z)) | exact wpAny_pure (hq a h' _ x y z)
end
end Mine


set_option pp.deepTerms false
set_option pp.deepTerms.threshold 3

namespace Mine
open PySem PyProof.Rows PySem.Builtin

section
variable {prog : Program} {w : World} {A : Around} {E : Value → Shared → Prop} {h : Heap} {g : Array GenState} {d : Drawn} {t : Nat} {os : OsState} {s : Shared}

theorem st_turned {M : Model} {bs : List Value} {Q : Unit → Shared → Prop} (e : bs = [.type "object"]) (hq : Q () s) : wpAny M A (notOverATurnedClass bs) Q E s := by subst e; exact wpAny_of_eq ck_turned hq
theorem st_extended {M : Model} {bs : List Value} {Q : Value → Shared → Prop} (e : bs = [.type "object"]) (hq : Q (.type "object") s) : wpAny M A (extendedBase bs) Q E s := by subst e; exact wpAny_of_eq ck_extended hq
theorem st_read {bs : List Value} {nm : Str} {es : Array DictEntry} {sl : Addr} {tk : Tok} {Q : Slots.Plan → Shared → Prop} (e : bs = [.type "object"]) (en : nm = "K") (hf : nsFind es "__slots__" = some (.ref sl)) (hsl : h.get? sl = some { cls := .type "list", data := .seq #[.str "obj" tk] })
    (ho : nsFind es "obj" = none) (hq : ∀ h', (∀ b o', h.get? b = some o' → h'.get? b = some o') → Q { names := ["obj"], dict := false, weak := false, inherited := [] } ⟨h', g, d, t, os⟩) :
    wpAny (model prog w) A (Slots.read nm bs es) Q E ⟨h, g, d, t, os⟩ := by subst e en; exact slots_read hf hsl ho hq

theorem ns_get_eq {M : Model} {a : Addr} {m : Str → Option Value} {name : Str} {v : Option Value} {Q : Option Value → Shared → Prop} (hn : h.Ns1 a m) (e : m name = v) (hq : Q v ⟨h, g, d, t, os⟩) : wpAny M A (nsGet a name) Q E ⟨h, g, d, t, os⟩ := ns_get hn (e ▸ hq)
theorem gen_heap {α : Type} {M : Model} {T : Sem α} {Q : α → Shared → Prop} {H : Heap} (P : Heap → Prop) (hP : P H) (hq : ∀ h2, P h2 → wpAny M A T Q E ⟨h2, g, d, t, os⟩) : wpAny M A T Q E ⟨H, g, d, t, os⟩ := hq H hP
theorem m_del {m : Str → Option Value} {x n : Str} {v : Option Value} (hne : (x == n) = false) (e : m x = v) : (fun x => if x = n then none else m x) x = v := by
  show (if x = n then none else m x) = v
  rw [if_neg (by simpa using hne)]; exact e
noncomputable def km6 (m : Str → Option Value) (dsc : Addr) : Str → Option Value := fun x => if x = "obj" then some (.ref dsc) else if x = "__qualname__" then none else m x
noncomputable def km7 (m : Str → Option Value) (dsc : Addr) : Str → Option Value := fun x => if x = "__doc__" then some .none else km6 m dsc x
theorem km6_get {m : Str → Option Value} {dsc : Addr} {x : Str} {v : Option Value} (h1 : (x == "obj") = false) (h2 : (x == "__qualname__") = false) (e : m x = v) : km6 m dsc x = v := by
  unfold km6; rw [if_neg (by simpa using h1), if_neg (by simpa using h2)]; exact e
theorem km7_get {m : Str → Option Value} {dsc : Addr} {x : Str} {v : Option Value} (h0 : (x == "__doc__") = false) (h1 : (x == "obj") = false) (h2 : (x == "__qualname__") = false) (e : m x = v) : km7 m dsc x = v := by
  unfold km7; rw [if_neg (by simpa using h0)]; exact km6_get h1 h2 e
theorem sn_str : typeLookup (.type "str") "__set_name__" = pure none := by kernel_rfl
theorem sn_int : typeLookup (.type "int") "__set_name__" = pure none := by kernel_rfl
theorem sn_list : typeLookup (.type "list") "__set_name__" = pure none := by kernel_rfl
theorem sn_fun : typeLookup (.type "function") "__set_name__" = pure none := by kernel_rfl
theorem sn_tup : typeLookup (.type "tuple") "__set_name__" = pure none := by kernel_rfl
theorem sn_none : typeLookup (.type "NoneType") "__set_name__" = pure none := by kernel_rfl
theorem sn_md : typeLookup (.type "member_descriptor") "__set_name__" = pure none := by kernel_rfl
/-- a value without __set_name__ -/
noncomputable def Quiet (h : Heap) (v : Value) : Prop := ∃ T, (match v with | .ref a => ∃ o, h.get? a = some o ∧ o.cls = .type T | .builtin _ => False | v => typeOf v = pure (.type T)) ∧ typeLookup (.type T) "__set_name__" = pure none
theorem Quiet.keep {h h' : Heap} {v : Value} (q : Quiet h v) (k : ∀ b o, h.get? b = some o → h'.get? b = some o) : Quiet h' v := by
  obtain ⟨T, x, y⟩ := q
  refine ⟨T, ?_, y⟩
  cases v with
  | ref a => obtain ⟨o, a, b⟩ := x; exact ⟨o, k _ _ a, b⟩
  | _ => exact x
theorem Quiet.typeIs {v : Value} (q : Quiet h v) : ∃ T, (⟨h, g, d, t, os⟩ : Shared).TypeIs v T ∧ typeLookup (.type T) "__set_name__" = pure none := by
  obtain ⟨T, x, y⟩ := q
  refine ⟨T, ?_, y⟩
  cases v with
  | builtin i => exact x.elim
  | _ => exact x
theorem Quiet.held {v : Value} (q : Quiet h v) (n : Str) (tk : Tok) : laidUnderItsOwnName (.str n tk) v = false := by
  obtain ⟨T, x, y⟩ := q
  cases v with
  | builtin i => exact x.elim
  | _ => rfl
noncomputable abbrev descObj (C : Addr) (tk : Tok) : Obj := { cls := .type "member_descriptor", data := .fields #[.str "obj" tk, .ref C, .builtin "proto.slot", .builtin "proto.slot#set", rawInt 0] }
theorem km7_quiet {m : Str → Option Value} {dsc C : Addr} {tk : Tok} (hq : ∀ n v, m n = some v → Quiet h v) (hd : h.get? dsc = some (descObj C tk)) : ∀ n v, km7 m dsc n = some v → Quiet h v := by
  intro n v e
  unfold km7 km6 at e
  split at e
  · cases e; exact ⟨"NoneType", by rfl, sn_none⟩
  split at e
  · cases e; exact ⟨"member_descriptor", ⟨_, hd, rfl⟩, sn_md⟩
  split at e
  · cases e
  exact hq n v e
theorem st_for1 {M : Model} {α : Type} {bs : List Value} {b : α} {f : Value → α → Sem (ForInStep α)} {Q : α → Shared → Prop} (e : bs = [.type "object"]) (hf : f (.type "object") b = pure (.yield b)) (hq : Q b s) : wpAny M A (forIn bs b f) Q E s := by
  subst e
  rw [List.forIn_cons, hf, pure_bind]
  show wpAny M A (forIn [] b f) Q E s
  rw [List.forIn_nil]
  exact wpAny_pure hq
theorem nsFind_some {es : Array DictEntry} {n : Str} (h : (nsFind es n).isSome = true) : es.any (·.key.isStr n) = true := by
  cases q : es.any (·.key.isStr n) with
  | true => rfl
  | false =>
    rw [Array.any_eq_false'] at q
    unfold nsFind findBy at h
    rw [Option.isSome_map, Array.find?_isSome] at h
    obtain ⟨e, he, hx⟩ := h
    exact absurd hx (q e he)
theorem st_linearize {M : Model} {bs : List Value} {Q : List Value → Shared → Prop} (e : bs = [.type "object"]) (hq : Q [.type "object"] s) : wpAny M A (linearize bs mroOf) Q E s := by subst e; exact wpAny_of_eq ck_linearize hq
theorem st_anyM {M : Model} {l : List Value} {f : Value → Sem Bool} {Q : Bool → Shared → Prop} (e : l = [.type "object"]) (hf : f (.type "object") = pure false) (hq : Q false s) : wpAny M A (l.anyM f) Q E s := by
  subst e
  have : [Value.type "object"].anyM f = pure false := by simp only [List.anyM, hf, pure_bind]
  rw [this]; exact wpAny_pure hq
theorem fil_self {C : Addr} : ([Value.ref C, .type "object"].filter fun x => x != .ref C) = [.type "object"] := by
  rw [List.filter_cons_of_neg (by simp), List.filter_cons_of_pos (by rfl)]; rfl
set_option maxHeartbeats 4000000 in
theorem type_new {nsA bT sl : Addr} {tk tk' tq : Tok} {m : Str → Option Value} {oN : Obj} {nm qn : Str} {Q : PySem.Fin → Shared → Prop}
    (hb : h.get? bT = some { cls := .type "tuple", data := .seq #[.type "object"] })
    (hn : h.Ns1 nsA m) (hnso : h.get? nsA = some oN) (hnc : oN.cls = .type "dict") (hnd : (nsA == sysModules) = false)
    (hslv : m "__slots__" = some (.ref sl)) (hsl : h.get? sl = some { cls := .type "list", data := .seq #[.str "obj" tk'] })
    (hobj : m "obj" = none) (L : List Str) (hL : ∀ n, m n ≠ none → n ∈ L) (hl : L.length ≤ 99) (hmod : (m "__module__").isSome = true) (hq : m "__qualname__" = some (.str qn tq)) (hdoc : m "__doc__" = none) (hnew : m "__new__" = none) (his : m "__init_subclass__" = none) (hcg : m "__class_getitem__" = none)
    (hcc : m "__classcell__" = none) (hcd : m "__classdictcell__" = none) (heq : (m "__eq__").isSome = true) (hhash : (m "__hash__").isSome = true) (hdel : m "__del__" = none)
    (hnm : nm = "K") (hqn : qn = "cmp_to_key.<locals>.K") (hqv : ∀ n v, m n = some v → Quiet h v) (hno : ∀ C, Looks (model prog w) h (opaqueClassAbove (.ref C)) none)
    (hQ : ∀ C N dsc tkd h' t', h.get? C = none → h.get? N = none → h.get? dsc = none → h'.get? C = some (kObj C N "cmp_to_key.<locals>.K" (some (.ref bT)) (some (.str "K" tk)) (some (.str "cmp_to_key.<locals>.K" tq))) →
      h'.Ns1 N (km7 m dsc) → h'.get? dsc = some (descObj C tkd) → (∀ b o, h.get? b = some o → h'.get? b = some o) → Q (.done (.ret (.ref C))) ⟨h', g, d, t', os⟩) :
    wpAny (model prog w) A (Builtin.«type.__new__» ⟨[.type "type", .str nm tk, .ref bT, .ref nsA], []⟩) Q E ⟨h, g, d, t, os⟩ := by
  subst hnm
  obtain ⟨o, es, ep, ho, hd, hk, hu, hm⟩ := id hn
  have hbT : (⟨h, g, d, t, os⟩ : Shared).TypeIs (.ref bT) "tuple" := ⟨_, hb, rfl⟩
  have hnT : (⟨h, g, d, t, os⟩ : Shared).TypeIs (.ref nsA) "dict" := ⟨_, hnso, hnc⟩
  have e1 := ck_sub_tup
  have e2 := ck_sub_dict
  have e3 := ck_sub_tt
  have e4 := ck_typeOfObject
  have e7 := ck_diter
  unfold Builtin.«type.__new__»
  iterate 46 walk_at "c_step"
  refine st_turned ?_ ?_
  · rfl
  walk_at "c_step"
  refine st_extended ?_ ?_
  · rfl
  have hnd' : decide ((nsA == sysModules) = true) = false := decide_eq_false (by rw [hnd]; exact Bool.false_ne_true)
  repeat (first | (with_reducible refine wpAny_ite_false hnd' ?_) | (with_reducible refine wpAny_dictEntries ho hd ?_) | walk_at "c_step")
  refine wpAny_ite_true (decide_eq_true (Bool.or_eq_true_iff.mpr (.inr (beq_self_eq_true _)))) ?_
  iterate 3 walk_at "c_step"
  walk_at "c_step"
  refine st_read (sl := sl) (tk := tk') ?_ rfl ((hm _).trans hslv) hsl ((hm _).trans hobj) ?_
  · rfl
  intro h1 k1
  walk_at "c_step"
  have hes : es.size ≤ 99 := Nat.le_trans (ns_few hn L hL o es ep ho hd) hl
  refine wpAny_newObj_type ?_ (by show es.size ≤ sizeLine + 1; have : (99 : Nat) < sizeLine := by decide
                                  omega)
  dsimp (config := {zeta := false, zetaHave := false}) only
  have hmodA : es.any (fun e => e.key.isStr "__module__") = true := nsFind_some (by rw [hm]; exact hmod)
  refine wpAny_ite_false (decide_eq_false fun z => by have z' : (!es.any (fun e => e.key.isStr "__module__")) = true := z; rw [hmodA] at z'; cases z') ?_
  have hN1 : (h1.push { cls := .type "dict", data := .dict es }).Ns1 h1.objs.size m := ⟨_, es, _, Heap.get?_push_size _ rfl, rfl, hk, hu, hm⟩
  repeat walk_at "c_step"
  refine wpAny_ite_false (by decide +kernel) ?_
  walk_at "c_step"
  refine wpAny_ite_false ?_ ?_
  · decide +kernel
  iterate 28 (first | (with_reducible refine ns_get_eq hN1 hq ?_) | (with_reducible refine ns_get_eq hN1 hdoc ?_) | walk_at "c_step")
  have hCN : (h1.push { cls := .type "dict", data := .dict es }).objs.size ≠ h1.objs.size := by rw [Heap.size_push]; exact Nat.succ_ne_self _
  refine gen_heap (fun h2 => h2.get? (h1.push { cls := .type "dict", data := .dict es }).objs.size = some { cls := .type "type", data := .cls { name := "K", bases := [.type "object"], mro := [], ns := h1.objs.size, qualname := qn }, slots := #[some (.ref bT), none, some (.str "K" tk), some (.str qn tq)] } ∧
    h2.Ns1 h1.objs.size m ∧ ∀ b o, h.get? b = some o → h2.get? b = some o) ⟨?_, ?_, ?_⟩ ?_
  · exact upd3 (o1 := { cls := .type "type", data := .cls { name := "K", bases := [.type "object"], mro := [], ns := h1.objs.size, qualname := qn }, slots := #[some (.ref bT)] })
      (o2 := { cls := .type "type", data := .cls { name := "K", bases := [.type "object"], mro := [], ns := h1.objs.size, qualname := qn }, slots := #[some (.ref bT), none, some (.str "K" tk)] }) (Heap.get?_push_size _ rfl) rfl rfl rfl rfl rfl rfl
  · exact hN1.at fun o e => upd3_ne hCN (Heap.get?_push_of_some _ e)
  · intro b o e
    have e1 := Heap.get?_push_of_some { cls := .type "dict", data := .dict es } (k1 b o e)
    have hb : (h1.push { cls := .type "dict", data := .dict es }).objs.size ≠ b := Nat.ne_of_gt (Heap.lt_size e1)
    exact upd3_ne hb (Heap.get?_push_of_some _ e1)
  rintro h2 ⟨hC2, hN2, hk2⟩
  refine ns_del hN2 ?_
  intro h3 hN3 s3
  have hC3 := (s3.2 _ hCN).trans hC2
  have e10 := ck_mroHook
  have e11 := ck_linearize
  have e12 := ck_madeBy
  iterate 6 (first | (with_reducible refine ns_get_eq hN3 (m_del (by decide +kernel) hnew) ?_) | walk_at "c_step")
  iterate 21 (first | (with_reducible refine ns_get_eq hN3 (m_del (by decide +kernel) his) ?_) | (with_reducible refine ns_get_eq hN3 (m_del (by decide +kernel) hcg) ?_) | (with_reducible refine ns_get_eq hN3 (m_del (by decide +kernel) hcc) ?_) | (with_reducible refine ns_get_eq hN3 (m_del (by decide +kernel) hcd) ?_) | walk_at "c_step")
  refine st_linearize ?_ ?_
  · rfl
  iterate 3 walk_at "c_step"
  refine st_anyM fil_self ?_ ?_
  · kernel_rfl
  iterate 12 walk_at "c_step"
  iterate 6 (walk_at "c_step")
  refine gen_heap (fun h4 => h4.get? (h1.push { cls := .type "dict", data := .dict es }).objs.size = some { cls := .type "type", data := .cls { name := "K", bases := [.type "object"], mro := [.ref (h1.push { cls := .type "dict", data := .dict es }).objs.size, .type "object"], ns := h1.objs.size, qualname := qn, hasDel := (es.any (fun e => e.key.isStr "__del__") || false) }, slots := #[some (.ref bT), none, some (.str "K" tk), some (.str qn tq), some (.builtin "object.__new__")] } ∧
    h4.Ns1 h1.objs.size (fun x => if x = "__qualname__" then none else m x) ∧ ∀ b o, h.get? b = some o → h4.get? b = some o) ⟨?_, ?_, ?_⟩ ?_
  · exact upd2 (o1 := { cls := .type "type", data := .cls { name := "K", bases := [.type "object"], mro := [.ref (h1.push { cls := .type "dict", data := .dict es }).objs.size, .type "object"], ns := h1.objs.size, qualname := qn, hasDel := (es.any (fun e => e.key.isStr "__del__") || false) }, slots := #[some (.ref bT), none, some (.str "K" tk), some (.str qn tq)] }) hC3 rfl rfl rfl rfl
  · exact hN3.at fun o e => upd2_ne hCN e
  · intro b o e
    have e2 := hk2 b o e
    have hb1 : h1.objs.size ≠ b := Nat.ne_of_gt (Heap.lt_size (k1 b o e))
    have hb2 : (h1.push { cls := .type "dict", data := .dict es }).objs.size ≠ b := by rw [Heap.size_push]; exact Nat.ne_of_gt (Nat.lt_succ_of_lt (Heap.lt_size (k1 b o e)))
    exact upd2_ne hb2 ((s3.2 _ hb1.symm).trans e2)
  rintro h4 ⟨hC4, hN4, hk4⟩
  have hdelA : es.any (fun e => e.key.isStr "__del__") = false := nsFind_any ((hm _).trans hdel)
  rw [hdelA, Bool.or_false] at hC4
  refine st_refresh hC4 rfl rfl hN4.ns rfl (m_del (by decide +kernel) hnew) ?_
  walk_at "c_step"
  walk_at "c_step"
  refine st_install ?_ hC4 rfl hN4 hCN (m_del (by decide +kernel) hobj) L (fun n hn => hL n fun z => hn ?_) (Nat.le_succ_of_le hl) rfl ?_
  · rfl
  · show (if n = "__qualname__" then none else m n) = none
    rw [z]; exact ite_self _
  intro h5 t5 dsc tkd hN5 hdsc hdn hC5 hk5
  have e13 := ck_givesWeak
  iterate 9 (walk_at "c_step")
  refine gen_heap (fun h6 => h6.get? (h1.push { cls := .type "dict", data := .dict es }).objs.size = some { cls := .type "type", data := .cls { name := "K", bases := [.type "object"], mro := [.ref (h1.push { cls := .type "dict", data := .dict es }).objs.size, .type "object"], ns := h1.objs.size, qualname := qn, hasDict := false, slotNames := ["obj"], hasDel := false }, slots := #[some (.ref bT), none, some (.str "K" tk), some (.str qn tq), some (.builtin "object.__new__"), some (.bool false)] } ∧
    h6.Ns1 h1.objs.size (km6 m dsc) ∧
    h6.get? dsc = some { cls := .type "member_descriptor", data := .fields #[.str "obj" tkd, .ref (h1.push { cls := .type "dict", data := .dict es }).objs.size, .builtin "proto.slot", .builtin "proto.slot#set", rawInt 0] } ∧ ∀ b o, h.get? b = some o → h6.get? b = some o) ⟨?_, ?_, ?_, ?_⟩ ?_
  · exact Heap.get?_update_self _ hC5 rfl
  · exact hN5.at fun o e => Heap.get?_update_of_ne _ hCN e
  · refine Heap.get?_update_of_ne _ (fun z => ?_) hdsc
    rw [← z, hC4] at hdn; cases hdn
  · intro b o e
    have hb1 : h1.objs.size ≠ b := Nat.ne_of_gt (Heap.lt_size (k1 b o e))
    have hb2 : (h1.push { cls := .type "dict", data := .dict es }).objs.size ≠ b := by rw [Heap.size_push]; exact Nat.ne_of_gt (Nat.lt_succ_of_lt (Heap.lt_size (k1 b o e)))
    exact Heap.get?_update_of_ne _ hb2 (hk5 b o hb2.symm hb1.symm (hk4 b o e))
  rintro h6 ⟨hC6, hN6, hD6, hk6⟩
  refine ns_get_eq hN6 (km6_get (by decide +kernel) (by decide +kernel) hdoc) ?_
  iterate 2 (walk_at "c_step")
  refine ns_set hN6 ?_
  intro h7 hN7' s7
  have hN7 : h7.Ns1 h1.objs.size (km7 m dsc) := hN7'
  clear hN7'
  have hC7 := (s7.2 _ hCN).trans hC6
  obtain ⟨oN4, _, _, hoN4, _⟩ := id hN4
  have hD7 := (s7.2 dsc (fun z => by rw [z, hoN4] at hdn; cases hdn)).trans hD6
  obtain ⟨ve, hve⟩ := Option.isSome_iff_exists.mp heq
  obtain ⟨vh, hvh⟩ := Option.isSome_iff_exists.mp hhash
  walk_at "c_step"
  refine ns_get_eq hN7 (km7_get (by decide +kernel) (by decide +kernel) (by decide +kernel) hve) ?_
  iterate 2 (walk_at "c_step")
  refine ns_get_eq hN7 (km7_get (by decide +kernel) (by decide +kernel) (by decide +kernel) hvh) ?_
  iterate 2 (walk_at "c_step")
  refine st_for1 ?_ ?_ ?_
  · rfl
  · kernel_rfl
  refine wpAny_bind (wpAny_tryCatch (wpAny_holding ?_))
  obtain ⟨o7, es7, ep7, ho7, hd7, hk7, hu7, hm7⟩ := id hN7
  have hkk : ∀ b o, h.get? b = some o → h7.get? b = some o := fun b o e => (s7.2 b (Nat.ne_of_lt (Heap.lt_size (k1 b o e)))).trans (hk6 b o e)
  have hqv7 : ∀ e ∈ es7, Quiet h7 e.val := fun e he => by
    obtain ⟨n, tn, _, hv⟩ := ns_vals hk7 hu7 hm7 e he
    exact km7_quiet (fun n v x => (hqv n v x).keep hkk) hD7 n _ hv
  refine wpAny_bind (wpAny_dictEntries ho7 hd7 ?_)
  refine wpAny_bind (for_keep (fun e he Q' hQ' => ?_) ?_)
  · obtain ⟨n, tn, hkn⟩ := hk7 e he
    rw [hkn]
    repeat walk_at "c_step"
    exact hQ'
  walk_at "c_step"
  refine wpAny_bind (wpAny_dictEntries ho7 hd7 ?_)
  refine wpAny_bind (for_keep (fun e he Q' hQ' => ?_) ?_)
  · obtain ⟨n, tn, hkn⟩ := hk7 e he
    have hq1 := hqv7 e he
    obtain ⟨T, hT, hl⟩ := hq1.typeIs (g := g) (d := d) (t := t5 + 1) (os := os)
    refine wpAny_ite_false ?_ ?_
    · rw [hkn, hq1.held]; rfl
    refine wpAny_bind (wpAny_specialOf hT hl ?_)
    repeat walk_at "c_step"
    exact hQ'
  subst hqn
  refine wpAny_bind (super_call hC7 ?_)
  intro so h8 hso hso8 hk8
  have hno8 : Looks (model prog w) h8 (opaqueClassAbove (.ref (h1.push { cls := .type "dict", data := .dict es }).objs.size)) none := (hno _).keeps fun b o e => hk8 b o (hkk b o e)
  refine wpAny_bind (wpAny_holding (super_attr (hk8 _ _ hC7) hso8 hno8 ?_))
  intro bf h9 t9 hbf hbf9 hk9
  refine wpAny_bind (isub_call (hk9 _ _ (hk8 _ _ hC7)) hbf9 ?_)
  repeat walk_at "c_step"
  have fr : ∀ a, h1.objs.size ≤ a → h.get? a = none := fun a ha => by
    cases q : h.get? a with
    | none => rfl
    | some o => exact absurd (Heap.lt_size (k1 a o q)) (Nat.not_lt.mpr ha)
  refine hQ _ _ dsc _ h9 t9 (fr _ (by rw [Heap.size_push]; exact Nat.le_succ _)) (fr _ (Nat.le_refl _)) ?_ (hk9 _ _ (hk8 _ _ hC7)) (hN7.at fun o e => hk9 _ _ (hk8 _ _ e)) (hk9 _ _ (hk8 _ _ hD7)) fun b o e => hk9 _ _ (hk8 _ _ (hkk b o e))
  cases q : h.get? dsc with
  | none => rfl
  | some o => rw [hk4 _ _ q] at hdn; cases hdn
end
end Mine


open PySem PySem.W PyProof.Rows PySem.W.X
set_option maxHeartbeats 4000000
set_option pp.deepTerms false
set_option pp.deepTerms.threshold 3

namespace Mine
open PySem PyProof.Rows PySem.Builtin
section
variable {prog : Program} {w : World} {A : Around} {E : Value → Shared → Prop} {h : Heap} {g : Array GenState} {d : Drawn} {t : Nat} {os : OsState} {s : Shared}
theorem tn_check (b c : Addr) (n : Str) (tk : Tok) : checkBuiltinCall "type.__new__" ⟨[.type "type", .str n tk, .ref b, .ref c], []⟩ = pure () := by kernel_rfl
theorem ti_check (o b c : Addr) (n : Str) (tk : Tok) : argsOk "type.__init__" ⟨[.ref o, .str n tk, .ref b, .ref c], []⟩ := by unfold argsOk; kernel_rfl
theorem tc_check (b c : Addr) (n : Str) (tk : Tok) : checkTypeCall "type" ⟨[.str n tk, .ref b, .ref c], []⟩ = pure () := by kernel_rfl
theorem tn_plain : plainId "type.__new__" = true := by decide +kernel
theorem tn_entry : entryFor table "type.__new__" = some Builtin.«type.__new__» := entryFor_of_tree (by kernel_rfl)
theorem ti_entry : entryFor table "type.__init__" = some Builtin.«type.__init__» := entryFor_of_tree (by kernel_rfl)
theorem ti_slot : Slot "type" "__init__" "type.__init__" := .of (owner := "type") (n := "__init__") (by rw [typeLookup_type, builtinLookup_eq_fast]; kernel_rfl) (by decide +kernel) (by decide +kernel) (by decide +kernel)
  (by first | exact .inl (by decide +kernel) | exact .inr (by decide +kernel)) (by rw [isSubtype_type]; kernel_rfl)
theorem ti_run (o b c : Addr) (n : Str) (tk : Tok) : Builtin.«type.__init__» ⟨[.ref o, .str n tk, .ref b, .ref c], []⟩ = pure (.done (.ret .none)) := by kernel_rfl
theorem ty_mro : mroOf (.type "type") = pure [.type "type", .type "object"] := by rw [mroOf_type]; kernel_rfl

theorem type_call {bT nsA : Addr} {nm : Str} {tk : Tok} {P : Addr → Shared → Prop} {Q : Value → Shared → Prop}
    (hnew : ∀ (A' : Around) (Q' : PySem.Fin → Shared → Prop) (E' : Value → Shared → Prop), (∀ C s', P C s' → Q' (.done (.ret (.ref C))) s') → wpAny (model prog w) A' (Builtin.«type.__new__» ⟨[.type "type", .str nm tk, .ref bT, .ref nsA], []⟩) Q' E' s)
    (hT : ∀ C s', P C s' → s'.TypeIs (.ref C) "type") (hq : ∀ C s', P C s' → Q (.ref C) s') :
    wpAny (model prog w) A (call (.type "type") [.str nm tk, .ref bT, .ref nsA]) Q E s := by
  refine wpAny_call (codeAny_of_tree ?_)
  show wpAny _ _ (callAny (.type "type") _) _ _ _
  refine wpAny_pure ⟨Code.quiet_builtin _ (by decide +kernel), codeAny_builtin F.entry_type_call ?_⟩
  rw [Around.under_plain (weight_type_call_type "type" _ []) rfl]
  have e1 := tc_check bT nsA nm tk
  have e2 := ck_madeByT
  have e3 := ty_mro
  have e4 := ck_sub_tt
  repeat (any_goals (first | assumption | wp_step))
  have hcode : codeAny (model prog w) A.in1 (.call (.builtin "type.__new__") ⟨[.type "type", .str nm tk, .ref bT, .ref nsA], []⟩) (wants (fun v s1 => ∃ C, v = .ref C ∧ P C s1) (fun _ _ => False)) s := by
    refine codeAny_of_tree ?_
    show wpAny _ A.in1.in1 (do checkBuiltinCall "type.__new__" ⟨[.type "type", .str nm tk, .ref bT, .ref nsA], []⟩; again (.builtin "type.__new__" ⟨[.type "type", .str nm tk, .ref bT, .ref nsA], []⟩)) _ _ s
    refine wpAny_bind (wpAny_of_eq (tn_check bT nsA nm tk) (wpAny_pure ⟨plainId_quiet tn_plain _, codeAny_builtin tn_entry ?_⟩))
    rw [Around.under_plainId tn_plain _]
    exact hnew _ _ _ fun C s' hp => ⟨C, rfl, hp⟩
  refine codeAny_mono hcode fun r s₁ hr => ?_
  cases r with
  | error e => exact hr.elim
  | ok fl =>
    cases fl with
    | ret obj =>
      obtain ⟨C, rfl, hp⟩ := hr
      have hTC := hT C s₁ hp
      have hli := ti_slot.lookup
      have hbi := ti_slot.bind (.ref C)
      repeat (any_goals (first | assumption | wp_step))
      refine codeAny_mono (codeAny_call_builtin ti_slot.plain ti_entry (ti_slot.check _ _ _ _ _ _ _ _ hTC (ti_check C bT nsA nm tk) (wpAny_of_eq (ti_run C bT nsA nm tk) (show wants (fun r s₂ => r = .none ∧ s₂ = s₁) (fun _ _ => False) (.ok (.ret .none)) s₁ from ⟨rfl, rfl⟩)))) fun r₂ s₂ hr₂ => ?_
      cases r₂ with
      | error e => exact hr₂.elim
      | ok fl₂ =>
        cases fl₂ with
        | ret r =>
          obtain ⟨rfl, rfl⟩ := hr₂
          have := hq C _ hp
          repeat (any_goals (first | assumption | wp_step))
        | _ => exact hr₂.elim
    | _ => exact hr.elim
end
end Mine


open PySem PySem.W PyProof.Rows PySem.W.X
set_option maxHeartbeats 4000000
set_option pp.deepTerms false
set_option pp.deepTerms.threshold 3

namespace Mine
open PySem PyProof.Rows PySem.Builtin
section
variable {M : Model} {A : Around} {E : Value → Shared → Prop} {h : Heap} {g : Array GenState} {d : Drawn} {t : Nat} {os : OsState} {s : Shared}

theorem codeAmong_more {pos : Pos} {c : Value} (a b : Nat) (l : List Value) (h : TriplesOk l) : codeAmong pos (l ++ [rawInt a, rawInt b, c]) = match codeAmong pos l with | some x => some x | none => if (a == pos.line && b == pos.col) = true then some c else none := by
  fun_induction TriplesOk l with
  | case1 =>
    have e1 : ((a : Int) = (pos.line : Int)) ↔ a = pos.line := by omega
    have e2 : ((b : Int) = (pos.col : Int)) ↔ b = pos.col := by omega
    simp [codeAmong, rawInt, e1, e2]
  | case2 a t b u x rest ih =>
    simp only [List.cons_append, codeAmong]
    split
    · rfl
    · exact ih h
  | case3 l h1 h2 => exact h.elim

/-- a table whose codes are as q tells -/
noncomputable def TabQ (h : Heap) (P : Addr) (q : Nat → Nat → Str) : Prop :=
  ∃ ps, h.get? P = some (tabObj ps) ∧ TriplesOk ps.toList ∧ ∀ pos cv, codeAmong pos ps.toList = some cv → ∃ c', cv = .ref c' ∧ c' ≠ P ∧ h.CodeRec (.ref c') (q pos.line pos.col)
theorem TabQ.keep {h h' : Heap} {P : Addr} {q : Nat → Nat → Str} (x : TabQ h P q) (k : ∀ b o, h.get? b = some o → h'.get? b = some o) : TabQ h' P q := by
  obtain ⟨ps, a, b, c⟩ := x
  refine ⟨ps, k _ _ a, b, fun pos cv e => ?_⟩
  obtain ⟨c', e1, e2, e3⟩ := c pos cv e
  exact ⟨c', e1, e2, e3.keeps k⟩
theorem TabQ.empty {h : Heap} {P : Addr} {q : Nat → Nat → Str} (e : h.get? P = some (tabObj #[])) : TabQ h P q := ⟨#[], e, trivial, fun pos cv z => by cases z⟩
theorem codeRec_extBut {h h' : Heap} {P c : Addr} {q : Str} (x : h.CodeRec (.ref c) q) (hx : Heap.ExtBut P h h') (hc : c ≠ P) : h'.CodeRec (.ref c) q :=
  let ⟨c₂, o, vs, t, e, g, r⟩ := x; ⟨c₂, o, vs, t, e, hx _ _ (by cases e; exact hc) g, r⟩
theorem TabQ.grow {h h' : Heap} {P c : Addr} {ps : Array Value} {pos : Pos} {q : Nat → Nat → Str} (e : h.get? P = some (tabObj ps)) (ht : TriplesOk ps.toList) (hq : ∀ pos cv, codeAmong pos ps.toList = some cv → ∃ c', cv = .ref c' ∧ c' ≠ P ∧ h.CodeRec (.ref c') (q pos.line pos.col))
    (hx : Heap.ExtBut P h h') (e' : h'.get? P = some (tabObj (ps ++ #[rawInt pos.line, rawInt pos.col, .ref c]))) (hc : c ≠ P) (hr : h'.CodeRec (.ref c) (q pos.line pos.col)) : TabQ h' P q := by
  have hl : (ps ++ #[rawInt pos.line, rawInt pos.col, Value.ref c]).toList = ps.toList ++ [rawInt pos.line, rawInt pos.col, .ref c] := by simp
  refine ⟨_, e', by rw [hl]; exact TriplesOk_snoc _ _ _ _ ht, fun pos' cv z => ?_⟩
  rw [hl, codeAmong_more _ _ _ ht] at z
  cases y : codeAmong pos' ps.toList with
  | some x =>
    rw [y] at z; cases z
    obtain ⟨c', e1, e2, e3⟩ := hq pos' cv y
    exact ⟨c', e1, e2, codeRec_extBut e3 hx e2⟩
  | none =>
    rw [y] at z
    dsimp only at z
    split at z
    · rename_i w
      cases z
      simp only [Bool.and_eq_true, beq_iff_eq] at w
      refine ⟨c, rfl, hc, ?_⟩
      rw [← w.1, ← w.2]; exact hr
    · cases z

theorem mk_fn {name qual : Str} {params : Arguments} {body : List Stmt} {scope : Scope} {env : Env} {c P : Addr} {pos : Pos} {firstLine : Nat} {mg : Str → Option Value} {clos : List (Str × Addr)} {q : Nat → Nat → Str} {Q : Value → Shared → Prop}
    (hcl : closureFor scope env = pure clos) (hge0 : env.globals = mainGlobals) (hg : s.heap.Ns mainGlobals mg) (hcode : env.code = .ref c) (C : CodeHd s.heap c P) (T : TabQ s.heap P q) (hq : q pos.line pos.col = qual) (hgP : mainGlobals ≠ P) (hb : s.heap.BuiltinsAt mg P)
    (h : ∀ f c' ctv doc h' tk, Heap.ExtBut P s.heap h' → s.heap.get? f = none → TabQ h' P q → h'.get? f = some (fnMade name qual params body scope clos doc ((mg "__name__").getD .none) c' ctv) → h'.CodeRec (.ref c') qual → c' ≠ P → (s.heap.get? c' = none ∨ ∃ o, s.heap.get? c' = some o ∧ h'.get? c' = some o) →
      Q (.ref f) { s with heap := h', toks := tk }) :
    wpAny M A (makeFunction name qual params (.stmts body) scope env [] [] [] pos firstLine) Q E s := by
  obtain ⟨ps, e, ht, hqs⟩ := T
  have ePs : P < s.heap.objs.size := Heap.lt_size e
  have fr : ∀ a, s.heap.objs.size ≤ a → s.heap.get? a = none := fun a ha => by
    cases z : s.heap.get? a with
    | none => rfl
    | some o => exact absurd (Heap.lt_size z) (Nat.not_lt.mpr ha)
  cases y : codeAmong pos ps.toList with
  | none =>
    refine makeFunction_K hcl hge0 hg hcode C e ht y hgP hb fun c' ctv doc h' tk hx hge hlt hrec htb => ?_
    have hcP : c' ≠ P := Nat.ne_of_gt (Nat.lt_of_lt_of_le ePs hge)
    have up : ∀ o : Obj, ∀ b o', h'.get? b = some o' → (h'.push o).get? b = some o' := fun o b o' e => Heap.get?_push_of_some _ e
    refine h _ c' ctv doc _ tk (fun b o hb e => up _ _ _ (hx b o hb e)) (fr _ (Nat.le_of_lt (Nat.lt_of_le_of_lt hge hlt))) ?_ (Heap.get?_push_size _ rfl) (hrec.push _) hcP (.inl (fr _ hge))
    subst hq
    exact (TabQ.grow e ht hqs hx htb hcP hrec).keep (up _)
  | some cv =>
    obtain ⟨c', rfl, e2, e3⟩ := hqs pos _ y
    rw [hq] at e3
    refine makeFunction_hit hcl hge0 hg hcode C e ht y hb fun ctv doc h' tk k hsz => ?_
    have up : ∀ o : Obj, ∀ b o', s.heap.get? b = some o' → (h'.push o).get? b = some o' := fun o b o' e => Heap.get?_push_of_some _ (k _ _ e)
    obtain ⟨c₂, oc, _, _, ec, eo, _⟩ := id e3
    cases ec
    refine h _ c' ctv doc _ tk (fun b o _ e => up _ _ _ e) (fr _ hsz) ?_ (Heap.get?_push_size _ rfl) (e3.keeps (up _)) e2 (.inr ⟨oc, eo, up _ _ _ eo⟩)
    exact TabQ.keep ⟨ps, e, ht, hqs⟩ (up _)
end
end Mine


open PySem PySem.W PyProof.Rows PySem.W.X
set_option maxHeartbeats 4000000
set_option pp.deepTerms false
set_option pp.deepTerms.threshold 3

namespace Mine
open PySem PyProof.Rows PySem.Builtin
section
variable {M : Model} {A : Around} {E : Value → Shared → Prop} {h : Heap} {g : Array GenState} {d : Drawn} {t : Nat} {os : OsState} {s : Shared}
noncomputable def Grown (h h' : Heap) (P : Addr) : Prop := ∃ ps more, h.get? P = some (tabObj ps) ∧ h'.get? P = some (tabObj (ps ++ more))
theorem Grown.same {h h' : Heap} {P : Addr} {ps : Array Value} (e : h.get? P = some (tabObj ps)) (e' : h'.get? P = some (tabObj ps)) : Grown h h' P := ⟨ps, #[], e, by simpa using e'⟩
theorem Grown.then {h h' h'' : Heap} {P : Addr} (x : Grown h h' P) (k : ∀ o, h'.get? P = some o → h''.get? P = some o) : Grown h h'' P := let ⟨ps, more, a, b⟩ := x; ⟨ps, more, a, k _ b⟩
theorem oldK_grown {h₀ h h' : Heap} (K : OldK h₀ h) {T : List Addr} (hT : ∀ a ∈ T, h₀.get? a = none) {c₀ P : Addr} {ps₀ : Array Value} (ht₀ : h₀.TableAt c₀ P ps₀) (hg : Grown h h' P)
    (hx : ∀ b o, b ≠ P → b ∉ T → h.get? b = some o → h'.get? b = some o) (hP : P ≠ cStatics) : OldK h₀ h' := by
  have nT : ∀ b o, h₀.get? b = some o → b ∉ T := fun b o e z => by rw [hT b z] at e; cases e
  obtain ⟨ps, more, g1, g2⟩ := hg
  refine ⟨fun b o e => ?_, fun b o e => ?_⟩
  · by_cases hb : b = P
    · subst hb
      have e₀ : o = { cls := .none, data := .fields ps₀ } := Option.some.inj (e.symm.trans ht₀.2)
      subst e₀
      rcases K.old b _ e with x | ⟨_, _, vs, m₁, hv, x⟩ | ⟨hc, _⟩
      · have : ps = ps₀ := by have := Option.some.inj (g1.symm.trans x); injection this with _ _ h3; injection h3
        subst this
        exact .inr (.inl ⟨ht₀.isCodeTable, rfl, ps, more, rfl, g2⟩)
      · cases hv
        have : ps = ps₀ ++ m₁ := by have := Option.some.inj (g1.symm.trans x); injection this with _ _ h3; injection h3
        subst this
        exact .inr (.inl ⟨ht₀.isCodeTable, rfl, ps₀, m₁ ++ more, rfl, by rw [g2, Array.append_assoc]⟩)
      · exact (hP hc).elim
    · rcases K.old b o e with x | ⟨t, hc, vs, m₁, hv, x⟩ | ⟨rfl, hc, ⟨o', es, n, ho', r⟩, z⟩
      · exact .inl (hx _ _ hb (nT b o e) x)
      · exact .inr (.inl ⟨t, hc, vs, m₁, hv, hx _ _ hb (nT b o e) x⟩)
      · exact .inr (.inr ⟨rfl, hc, ⟨o', es, n, hx _ _ hb (nT _ o e) ho', r⟩, fun key => by rw [OldK.staticOf_congr ((hx _ _ hb (nT _ o e) ho').trans ho'.symm) key]; exact z key⟩)
  · by_cases hb : b = P
    · exact ⟨_, hb ▸ g2⟩
    · obtain ⟨o', ho'⟩ := K.there b o e
      exact ⟨o', hx _ _ hb (nT b o e) ho'⟩

/-- the class's code in the table of the function around it -/
noncomputable def KCode (h : Heap) (P : Addr) (pos : Pos) (qual : Str) (qK : Nat → Nat → Str) (pk : Option (Addr × Addr)) : Prop :=
  ∃ ps, h.get? P = some (tabObj ps) ∧ TriplesOk ps.toList ∧ match pk with
    | none => codeAmong pos ps.toList = none
    | some (cK, PK) => codeAmong pos ps.toList = some (.ref cK) ∧ h.CodeRec (.ref cK) qual ∧ CodeHd h cK PK ∧ TabQ h PK qK ∧ P ≠ PK ∧ P ≠ cK ∧ cK ≠ PK

theorem class_code {env : Env} {c P : Addr} {pos : Pos} {firstLine : Nat} {name qual : Str} {scope : Scope} {qK : Nat → Nat → Str} {pk : Option (Addr × Addr)} {Q : Value → Shared → Prop} (hc : env.code = .ref c) (C : CodeHd s.heap c P) (T : KCode s.heap P pos qual qK pk)
    (hQ : ∀ cK PK h' tk, Heap.ExtBut P s.heap h' → Grown s.heap h' P → KCode h' P pos qual qK (some (cK, PK)) → (pk = none → s.heap.get? PK = none) → (∀ x, pk = some x → x = (cK, PK)) → Q (.ref cK) { s with heap := h', toks := tk }) :
    wpAny M A (classCode env pos firstLine name qual scope) Q E s := by
  obtain ⟨ps, hP, htr, T⟩ := T
  cases pk with
  | some x =>
    obtain ⟨cK, PK⟩ := x
    obtain ⟨t1, t2, t3, t4, t5, t6, t7⟩ := T
    exact wpAny_codeAt_hit hc (C.code hP htr) t1 (hQ cK PK s.heap s.toks (fun _ _ _ e => e) (.same hP hP) ⟨ps, hP, htr, t1, t2, t3, t4, t5, t6, t7⟩ (fun z => by cases z) (fun x z => by cases z; rfl))
  | none =>
    have hnf : codeAmong pos ps.toList = none := T
    obtain ⟨o, vs, file, tf, flags, tg, inF, text, tt, op, ho, hd, h11, h2, h7, h9, h10, hop, hpd, htr', hne⟩ := id (C.code hP htr)
    rw [hP] at hop; cases hop
    unfold classCode codeAt
    rw [hc, if_neg (show ¬ ((Value.ref c == Value.none) = true) from Bool.false_ne_true)]
    refine wpAny_bind (wpAny_fieldsOf ho hd ?_)
    rw [h11]
    refine wpAny_bind (wpAny_fieldsOf hP hpd ?_)
    rw [hnf, h2, h7, h9, h10]
    refine wpAny_bind (wpAny_newCodeX fun c' P' h' tk hk hc' hP' hcode' htab' hrec' => ?_)
    have hop' := hk _ _ hP
    refine wpAny_bind (wpAny_updateFieldsOfTheText hop' hpd ?_)
    have hnew : (Obj.mapFields (fun vs => if (codeAmong pos vs.toList).isSome = true then vs else vs ++ #[rawInt pos.line, rawInt pos.col, .ref c']) (tabObj ps)).data =
        .fields (ps ++ #[rawInt pos.line, rawInt pos.col, .ref c']) := by
      rw [Obj.data_mapFields hpd, hnf]; rfl
    have hget := Heap.get?_update_self (h := h') (fun o => Obj.mapFields (fun vs => if (codeAmong pos vs.toList).isSome = true then vs else
      vs ++ #[rawInt pos.line, rawInt pos.col, .ref c']) o) hop' (Obj.isFreed_of_fields hnew)
    refine wpAny_bind (wpAny_fieldsOf hget hnew ?_)
    have hl : (ps ++ #[rawInt pos.line, rawInt pos.col, Value.ref c']).toList = ps.toList ++ [rawInt pos.line, rawInt pos.col, .ref c'] := by simp
    rw [hl, codeAmong_snoc _ htr hnf]
    have hcP : c' ≠ P := Nat.ne_of_gt (Nat.lt_of_lt_of_le (Heap.lt_size hP) hc')
    have hP'P : P' ≠ P := Nat.ne_of_gt (Nat.lt_of_lt_of_le (Heap.lt_size hP) hP')
    have ex := Heap.SameBut.update (h := h') (a := P) (f := fun o => Obj.mapFields (fun vs => if (codeAmong pos vs.toList).isSome = true then vs else vs ++ #[rawInt pos.line, rawInt pos.col, .ref c']) o)
    have hget' : (h'.update P fun o => Obj.mapFields (fun vs => if (codeAmong pos vs.toList).isSome = true then vs else vs ++ #[rawInt pos.line, rawInt pos.col, .ref c']) o).get? P = some (tabObj (ps ++ #[rawInt pos.line, rawInt pos.col, .ref c'])) := by
      rw [hget]; simp only [Obj.mapFields, hnf]; rfl
    have hd' : CodeHd h' c' P' := .of hcode' htab'
    obtain ⟨c₂, o₂, vs₂, t₂, e₂, g₂, r₂⟩ := hrec'
    cases e₂
    refine wpAny_pure (hQ c' P' _ tk (fun b o' hb e => ex.extBut b o' hb (hk b o' e)) ⟨ps, _, hP, hget'⟩ ⟨_, hget', by rw [hl]; exact TriplesOk_snoc _ _ _ _ htr, by rw [hl]; exact codeAmong_snoc _ htr hnf, ⟨_, o₂, vs₂, t₂, rfl, ex.extBut _ _ hcP g₂, r₂⟩, ?_, ?_, hP'P.symm, hcP.symm, ?_⟩ (fun _ => ?_) fun x z => by cases z)
    · obtain ⟨o, vs, file, tf, flags, tg, inF, text, tt, e, r⟩ := hd'
      exact ⟨o, vs, file, tf, flags, tg, inF, text, tt, ex.extBut _ _ hcP e, r⟩
    · exact TabQ.empty (ex.extBut _ _ hP'P htab'.2)
    · obtain ⟨o, vs, file, tf, flags, tg, inF, text, tt, e, e1, e2, e3, e4, e5, e6, e7, e8, e9⟩ := hd'
      exact e9
    · cases z : s.heap.get? P' with
      | none => rfl
      | some o => exact absurd (Heap.lt_size z) (Nat.not_lt.mpr hP')
end
end Mine


open PySem PySem.W PyProof.Rows PySem.W.X
set_option maxHeartbeats 4000000
set_option pp.deepTerms false
set_option pp.deepTerms.threshold 3

namespace Mine
open PySem PyProof.Rows PySem.Builtin
noncomputable abbrev prepObj : Obj := { cls := .type "builtin_function_or_method", data := .fields #[.builtin "type.__prepare__", .type "type"] }
section
variable {prog : Program} {w : World} {A : Around} {E : Value → Shared → Prop} {h : Heap} {g : Array GenState} {d : Drawn} {t : Nat} {os : OsState} {s : Shared}
local macro_rules | `(tactic| x_close) => `(tactic| exact ⟨_, _, rfl, rfl, (Mem.nw (by assumption) _ (List.mem_cons_self ..)).2, (Mem.nw (by assumption) _ (List.mem_cons_self ..)).1, mem_keep (by assumption)⟩)
theorem prep_ga {Q : Value → Shared → Prop} {tk : Tok}
    (hq : ∀ a h', h.get? a = none → h'.get? a = some prepObj → (∀ b o, h.get? b = some o → h'.get? b = some o) → Q (.ref a) ⟨h', g, d, t, os⟩) :
    wpAny (model prog w) A (call (.builtin "type.__getattribute__") [.type "type", .str "__prepare__" tk]) Q E ⟨h, g, d, t, os⟩ := by
  refine wpAny_mono (Q := fun v s' => ∃ a h', v = .ref a ∧ s' = ⟨h', g, d, t, os⟩ ∧ h.get? a = none ∧ h'.get? a = some prepObj ∧ (∀ b o, h.get? b = some o → h'.get? b = some o)) (E := fun _ _ => False) ?_ (fun v s' ⟨a, h', e1, e2, x, y, z⟩ => by rw [e1, e2]; exact hq a h' x y z) fun _ _ z => z.elim
  clear hq
  x_run
theorem prep_call {p b : Addr} {nm : Str} {tk : Tok} {Q : Value → Shared → Prop} (hp : h.get? p = some prepObj)
    (hq : ∀ a h', h.get? a = none → h'.get? a = some { cls := .type "dict", data := .dict #[] } → (∀ b o, h.get? b = some o → h'.get? b = some o) → Q (.ref a) ⟨h', g, d, t, os⟩) :
    wpAny (model prog w) A (call (.ref p) [.str nm tk, .ref b]) Q E ⟨h, g, d, t, os⟩ := by
  refine wpAny_mono (Q := fun v s' => ∃ a h', v = .ref a ∧ s' = ⟨h', g, d, t, os⟩ ∧ h.get? a = none ∧ h'.get? a = some { cls := .type "dict", data := .dict #[] } ∧ (∀ b o, h.get? b = some o → h'.get? b = some o)) (E := fun _ _ => False) ?_ (fun v s' ⟨a, h', e1, e2, x, y, z⟩ => by rw [e1, e2]; exact hq a h' x y z) fun _ _ z => z.elim
  clear hq
  unfold prepObj at hp
  x_run
theorem ty_ga : typeLookup (.type "type") "__getattribute__" = pure (some (.builtin "type.__getattribute__")) := by kernel_rfl
theorem ty_ga_bind : bindSpecial (.builtin "type.__getattribute__") (.type "type") = pure (.builtin "type.__getattribute__", [.type "type"]) := by kernel_rfl
theorem ty_type : typeOf (.type "type") = pure (.type "type") := by kernel_rfl
theorem prep_attr {Q : Option Value → Shared → Prop}
    (hq : ∀ a h' t', h.get? a = none → h'.get? a = some prepObj → (∀ b o, h.get? b = some o → h'.get? b = some o) → Q (some (.ref a)) ⟨h', g, d, t', os⟩) :
    wpAny (model prog w) A (getAttr? (.type "type") "__prepare__") Q E ⟨h, g, d, t, os⟩ := by
  have hlk := ty_ga
  unfold getAttr? getAttrBy?
  refine wpAny_bind (wpAny_mkText (wpAny_bind (wpAny_attempt ?_)))
  unfold getAttrBy
  refine wpAny_holding (wpAny_bind (wpAny_of_eq ty_type (wpAny_bind (wpAny_of_eq hlk ?_))))
  show wpAny _ _ (getAttrByItsOwn (.type "type") (.str "__prepare__" t) (.type "type") (.builtin "type.__getattribute__") false false) _ _ _
  unfold getAttrByItsOwn hookBefore callGetattribute boundAndCalled
  refine wpAny_bind (wpAny_of_eq (show (if onTheHeap (.type "type") then typeLookup (.type "type") "__getattr__" else pure none) = pure none from rfl) ?_)
  refine wpAny_bind (wpAny_attempt (wpAny_holding ?_))
  show wpAny _ _ (bindSpecial (.builtin "type.__getattribute__") (.type "type") >>= _) _ _ _
  refine wpAny_bind (wpAny_of_eq ty_ga_bind ?_)
  refine prep_ga fun a h' x y z => ?_
  refine wpAny_pure (wpAny_pure (hq a h' _ x y z))
end
end Mine


open PySem PySem.W PyProof.Rows PySem.W.X
set_option maxHeartbeats 4000000
set_option pp.deepTerms false
set_option pp.deepTerms.threshold 3

namespace Mine
open PySem PyProof.Rows PySem.Builtin
section
variable {M : Model} {A : Around} {E : Value → Shared → Prop} {h : Heap} {g : Array GenState} {d : Drawn} {t : Nat} {os : OsState} {s : Shared}
theorem put_cls (n : Str) (hh : Int) (k v : Value) (o : Obj) : (Obj.putName n hh k v o).cls = o.cls := by
  rw [Obj.putName_eq]
  obtain ⟨c, d, dt, sl⟩ := o
  cases dt <;> try rfl
  simp only [Obj.putNameByArray]
  split <;> rfl
theorem put_freed (n : Str) (hh : Int) (k v : Value) {o : Obj} {es : Array DictEntry} {ep : Nat} (hd : o.data = .dict es ep) : (Obj.putName n hh k v o).isFreed = false := by
  rw [Obj.putName_eq]
  obtain ⟨c, d, dt, sl⟩ := o
  subst hd
  simp only [Obj.putNameByArray]
  split <;> rfl
/-- a dict that is an own namespace -/
noncomputable def DictNs (h : Heap) (a : Addr) (m : Str → Option Value) : Prop := h.Ns1 a m ∧ ∃ o, h.get? a = some o ∧ o.cls = .type "dict"
theorem DictNs.at {h h' : Heap} {a : Addr} {m : Str → Option Value} (x : DictNs h a m) (k : ∀ o, h.get? a = some o → h'.get? a = some o) : DictNs h' a m := ⟨x.1.at k, let ⟨o, e, r⟩ := x.2; ⟨o, k _ e, r⟩⟩
theorem dict_put {a : Addr} {m : Str → Option Value} {name : Str} {v : Value} {Q : Unit → Shared → Prop} (hn : DictNs h a m)
    (hq : ∀ h', DictNs h' a (fun x => if x = name then some v else m x) → Heap.SameBut a h h' → Q () ⟨h', g, d, t + 1, os⟩) : wpAny M A (nsSet a name v) Q E ⟨h, g, d, t, os⟩ := by
  obtain ⟨hn, o, ho, hc⟩ := hn
  intro Γ p hΓ
  have W := Sem.wp_nsSet1 M Γ (fun e _ s' => E e s') p ⟨h, g, d, t, os⟩ hn name v (fun _ _ s' => s'.heap.Ns1 a (fun x => if x = name then some v else m x) ∧ Heap.SameBut a h s'.heap) (fun h' x y => ⟨x, y⟩)
  obtain ⟨o', es, ep, ho', hd, hk, hu, hm⟩ := id hn
  rw [ho] at ho'; cases ho'
  have hany : es.any (·.refKey) = false := by
    rw [Array.any_eq_false']; intro e he; obtain ⟨n, t, h⟩ := hk e he; simp [DictEntry.refKey, h]
  simp only [nsSet, strHash, Sem.wp_bind', Sem.wp_cmd_ask, Sem.wp_pure', Sem.wp_cmd_mkText] at W ⊢
  rw [Sem.wp_loadPart_of M Γ _ p _ (o := o) _ ho] at W ⊢
  simp only [hd, aRefKeyMayBeTheName_eq, aRefKeyMayBeTheNameByArray, hany, Bool.and_false, Bool.false_eq_true, if_false, Sem.wp_cmd_updatePart] at W ⊢
  refine ⟨W.1, hq _ ⟨W.2.1, ?_⟩ W.2.2⟩
  obtain ⟨o2, es2, ep2, ho2, hd2, _⟩ := W.2.1
  refine ⟨o2, ho2, ?_⟩
  rw [Heap.get?_update_self _ ho (put_freed _ _ _ _ hd)] at ho2
  cases ho2
  rw [put_cls]; exact hc

theorem cls_store {env : Env} {m : Str → Option Value} {x : Str} {v : Value} {Q : Unit → Shared → Prop} (hk : env.scope.kind = .class) (hb : env.blockKind = .class) (hx : env.kindOf x = some .local ∨ (env.kindOf x = none ∧ compilersOwnNames.contains x = true)) (hn : DictNs h env.locals m)
    (hq : ∀ h', DictNs h' env.locals (fun y => if y = x then some v else m y) → Heap.SameBut env.locals h h' → Q () ⟨h', g, d, t + 1, os⟩) : wpAny M A (storeName env x v) Q E ⟨h, g, d, t, os⟩ := by
  obtain ⟨o, ho, hc⟩ := hn.2
  have key : wpAny M A (localSet env x v) Q E ⟨h, g, d, t, os⟩ := by
    unfold localSet
    refine wpAny_bind (wpAny_load' ho ?_)
    rw [hc]
    exact dict_put hn hq
  unfold storeName
  rcases hx with hx | ⟨hx, hy⟩
  · rw [hx, hk, hb]
    exact key
  · rw [hx, hk, hb, hy]
    exact key
end
end Mine


open PySem PySem.W PyProof.Rows PySem.W.X
set_option maxHeartbeats 4000000
set_option pp.deepTerms false
set_option pp.deepTerms.threshold 3

namespace Mine
open PySem PyProof.Rows PySem.Builtin
noncomputable def putM (m : Str → Option Value) (x : Str) (v : Value) : Str → Option Value := fun y => if y = x then some v else m y
/-- the heap kept but for two addresses -/
noncomputable def Kp (a b : Addr) (h h' : Heap) : Prop := ∀ x o, x ≠ a → x ≠ b → h.get? x = some o → h'.get? x = some o
theorem Kp.trans {a b : Addr} {h h' h'' : Heap} (x : Kp a b h h') (y : Kp a b h' h'') : Kp a b h h'' := fun z o p q e => y z o p q (x z o p q e)
theorem Kp.refl {a b : Addr} {h : Heap} : Kp a b h h := fun _ _ _ _ e => e

structure Bd (h : Heap) (nsA cK PK : Addr) (qK : Nat → Nat → Str) (mg m : Str → Option Value) : Prop where
  ns : DictNs h nsA m
  tab : TabQ h PK qK
  hd : CodeHd h cK PK
  g : h.Ns mainGlobals mg
  b : h.BuiltinsAt mg PK
  n1 : nsA ≠ PK
  n2 : nsA ≠ cK
  n3 : mainGlobals ≠ nsA
  n4 : mainGlobals ≠ PK
  n5 : ∃ bm, mg "__builtins__" = some (.ref bm) ∧ bm ≠ nsA
theorem codeHd_ne {h : Heap} {c P : Addr} (x : CodeHd h c P) : c ≠ P := let ⟨_, _, _, _, _, _, _, _, _, _, _, _, _, _, _, _, _, _, e⟩ := x; e
theorem codeHd_but {h h' : Heap} {c P a : Addr} (x : CodeHd h c P) (hx : Heap.ExtBut a h h') (hc : c ≠ a) : CodeHd h' c P :=
  let ⟨o, vs, file, tf, flags, tg, inF, text, tt, e, r⟩ := x; ⟨o, vs, file, tf, flags, tg, inF, text, tt, hx _ _ hc e, r⟩
theorem bi_but {h h' : Heap} {mg : Str → Option Value} {P a bm : Addr} (x : h.BuiltinsAt mg P) (hx : Heap.ExtBut a h h') (e : mg "__builtins__" = some (.ref bm)) (hne : bm ≠ a) : h'.BuiltinsAt mg P := by
  obtain ⟨bm', o, e', n1, n2, n3, g, r⟩ := x
  rw [e] at e'; cases e'
  exact ⟨bm, o, e, n1, n2, n3, hx _ _ hne g, r⟩
theorem bi_self {h h' : Heap} {mg : Str → Option Value} {P : Addr} (x : h.BuiltinsAt mg P) (hx : Heap.ExtBut P h h') : h'.BuiltinsAt mg P := by
  obtain ⟨bm, o, e, n1, n2, n3, g, r⟩ := x
  exact ⟨bm, o, e, n1, n2, n3, hx _ _ n3 g, r⟩
theorem tabQ_but {h h' : Heap} {P a : Addr} {q : Nat → Nat → Str} {oa : Obj} {es : Array DictEntry} {ep : Nat} (x : TabQ h P q) (hx : Heap.ExtBut a h h') (hP : P ≠ a) (ha : h.get? a = some oa) (hd : oa.data = .dict es ep) : TabQ h' P q := by
  obtain ⟨ps, e, ht, hq⟩ := x
  refine ⟨ps, hx _ _ hP e, ht, fun pos cv z => ?_⟩
  obtain ⟨c', e1, e2, e3⟩ := hq pos cv z
  refine ⟨c', e1, e2, codeRec_extBut e3 hx fun y => ?_⟩
  obtain ⟨c₂, o, vs, t, e4, e5, e6, _⟩ := e3
  cases e4
  rw [y, ha] at e5; cases e5
  rw [hd] at e6; cases e6

section
variable {M : Model} {A : Around} {E : Value → Shared → Prop} {h : Heap} {g : Array GenState} {d : Drawn} {t : Nat} {os : OsState} {s : Shared} {env : Env} {nsA cK PK : Addr} {qK : Nat → Nat → Str} {mg m : Str → Option Value}

/-- the class's own frame -/
structure CEnv (env : Env) (nsA cK : Addr) (scope : Scope) : Prop where
  sc : env.scope = scope
  kind : scope.kind = .class
  loc : env.locals = nsA
  glob : env.globals = mainGlobals
  code : env.code = .ref cK
theorem CEnv.block {scope : Scope} (x : CEnv env nsA cK scope) : env.blockKind = .class := by unfold Env.blockKind; rw [x.sc, x.kind]; rfl
theorem CEnv.k {scope : Scope} (x : CEnv env nsA cK scope) : env.scope.kind = .class := by rw [x.sc]; exact x.kind
theorem CEnv.kindOf {scope : Scope} (x : CEnv env nsA cK scope) (y : Str) : env.kindOf y = scope.names.lookup y := by unfold Env.kindOf; rw [x.sc]

theorem bd_store {scope : Scope} {x : Str} {v : Value} {Q : Unit → Shared → Prop} (c : CEnv env nsA cK scope) (hx : scope.names.lookup x = some .local ∨ (scope.names.lookup x = none ∧ compilersOwnNames.contains x = true)) (b : Bd h nsA cK PK qK mg m)
    (hq : ∀ h' t', Bd h' nsA cK PK qK mg (putM m x v) → Heap.SameBut nsA h h' → Q () ⟨h', g, d, t', os⟩) : wpAny M A (storeName env x v) Q E ⟨h, g, d, t, os⟩ := by
  refine cls_store c.k c.block (by rw [c.kindOf]; exact hx) (by rw [c.loc]; exact b.ns) fun h' dn sb => ?_
  rw [c.loc] at dn sb
  obtain ⟨bm, e5, n5⟩ := b.n5
  obtain ⟨oa, es, ep, ha, hd, _⟩ := id b.ns.1
  exact hq h' _ ⟨dn, tabQ_but b.tab sb.extBut b.n1.symm ha hd, codeHd_but b.hd sb.extBut b.n2.symm, b.g.extBut sb.extBut b.n3, bi_but b.b sb.extBut e5 n5, b.n1, b.n2, b.n3, b.n4, bm, e5, n5⟩ sb

theorem bd_def {scope : Scope} {name : Str} {params : Arguments} {body : List Stmt} {sc : Scope} {pos : Pos} {clos : List (Str × Addr)} {Q : Flow → Shared → Prop} (c : CEnv env nsA cK scope) (hx : scope.names.lookup name = some .local) (b : Bd h nsA cK PK qK mg m)
    (hd0 : params.defaults = []) (hk0 : params.kw_defaults = []) (ha : annTrees params none env = []) (hcl : closureFor sc env = pure clos) (hq : qK pos.line pos.col = env.qual ++ name)
    (next : ∀ f c' ctv doc h' t', Bd h' nsA cK PK qK mg (putM m name (.ref f)) → Kp nsA PK h h' → h.get? f = none → f ≠ nsA → f ≠ PK → c' ≠ nsA → c' ≠ PK → h'.get? f = some (fnMade name (env.qual ++ name) params body sc clos doc ((mg "__name__").getD .none) c' ctv) →
      h'.CodeRec (.ref c') (env.qual ++ name) → Q .next ⟨h', g, d, t', os⟩) :
    wpAny M A (exec (.FunctionDef name params body [] none [] sc none name pos) env) Q E ⟨h, g, d, t, os⟩ := by
  have hqn : qualnameIn env name name = env.qual ++ name := by
    unfold qualnameIn; rw [c.kindOf, hx]; rfl
  refine nestDef_K hd0 hk0 ha ?_
  rw [hqn]
  obtain ⟨bm, e5, n5⟩ := b.n5
  obtain ⟨oa, es, ep, hga, hd, _⟩ := id b.ns.1
  refine mk_fn (s := ⟨h, g, d, t, os⟩) hcl c.glob b.g c.code b.hd b.tab hq b.n4 b.b fun f c' ctv doc h1 tk x1 fn1 tab1 ho1 cr1 hcP _ => ?_
  have fA : f ≠ nsA := fun z => by have fn1 : h.get? f = none := fn1; rw [z, hga] at fn1; cases fn1
  have fP : f ≠ PK := fun z => by obtain ⟨ps, e, _⟩ := b.tab; have fn1 : h.get? f = none := fn1; rw [z, e] at fn1; cases fn1
  have dn1 : DictNs h1 nsA m := b.ns.at fun o e => x1 _ _ b.n1 e
  obtain ⟨oa1, es1, ep1, hga1, hd1, _⟩ := id dn1.1
  have cA : c' ≠ nsA := fun z => by
    obtain ⟨c₂, o, vs, t, e4, e6, e7, _⟩ := cr1
    cases e4
    rw [z, hga1] at e6; cases e6
    rw [hd1] at e7; cases e7
  have b1 : Bd h1 nsA cK PK qK mg m := ⟨dn1, tab1, codeHd_but b.hd x1 (codeHd_ne b.hd), b.g.extBut x1 b.n4, bi_self b.b x1, b.n1, b.n2, b.n3, b.n4, bm, e5, n5⟩
  refine bd_store (x := name) (v := .ref f) c (.inl hx) b1 fun h2 t2 b2 sb => ?_
  exact next f c' ctv doc h2 t2 b2 (fun x o p q e => sb.extBut _ _ p (x1 _ _ q e)) fn1 fA fP cA hcP (sb.extBut _ _ fA ho1) (codeRec_extBut cr1 sb.extBut cA)
end
end Mine


open PySem PySem.W PyProof.Rows PySem.W.X
set_option maxHeartbeats 4000000
set_option pp.deepTerms false
set_option pp.deepTerms.threshold 3

namespace Mine
open PySem PyProof.Rows PySem.Builtin
/-- a def of the class -/
structure MD where
  params : Arguments
  body : List Stmt
  sc : Scope
  pos : Pos
  clos : List (Str × Addr)
noncomputable def MD.stmt (name : Str) (x : MD) : Stmt := .FunctionDef name x.params x.body [] none [] x.sc none name x.pos
structure MD.Ok (env : Env) (scope : Scope) (qK : Nat → Nat → Str) (name : Str) (x : MD) : Prop where
  hd0 : x.params.defaults = []
  hk0 : x.params.kw_defaults = []
  ha : annTrees x.params none env = []
  hcl : closureFor x.sc env = pure x.clos
  hq : qK x.pos.line x.pos.col = env.qual ++ name
  hx : scope.names.lookup name = some .local
structure KFn (h : Heap) (f nsA PK : Addr) (name qual : Str) (x : MD) (pm : Value) : Prop where
  at_ : ∃ c' ctv doc, h.get? f = some (fnMade name qual x.params x.body x.sc x.clos doc pm c' ctv) ∧ h.CodeRec (.ref c') qual ∧ c' ≠ nsA ∧ c' ≠ PK
  n1 : f ≠ nsA
  n2 : f ≠ PK
theorem codeRec_kp {h h' : Heap} {a b c : Addr} {q : Str} (x : h.CodeRec (.ref c) q) (k : Kp a b h h') (n1 : c ≠ a) (n2 : c ≠ b) : h'.CodeRec (.ref c) q :=
  let ⟨c₂, o, vs, t, e, g, r⟩ := x; ⟨c₂, o, vs, t, e, k _ _ (by cases e; exact n1) (by cases e; exact n2) g, r⟩
theorem KFn.kp {h h' : Heap} {f nsA PK : Addr} {name qual : Str} {x : MD} {pm : Value} (y : KFn h f nsA PK name qual x pm) (k : Kp nsA PK h h') : KFn h' f nsA PK name qual x pm := by
  obtain ⟨⟨c', ctv, doc, e, r, n3, n4⟩, n1, n2⟩ := y
  exact ⟨⟨c', ctv, doc, k _ _ n1 n2 e, codeRec_kp r k n3 n4, n3, n4⟩, n1, n2⟩
theorem sb_kp {a b : Addr} {h h' : Heap} (x : Heap.SameBut a h h') : Kp a b h h' := fun z o p _ e => x.extBut _ _ p e

/-- all that the class's body makes -/
structure KBody (h h' : Heap) (nsA PK : Addr) (qual : Str) (pm : Value) (x0 x1 x2 x3 x4 x5 : MD) (f0 f1 f2 f3 f4 f5 sl : Addr) (ts : Tok) : Prop where
  kp : Kp nsA PK h h'
  i : KFn h' f0 nsA PK "__init__" (qual ++ "__init__") x0 pm
  lt : KFn h' f1 nsA PK "__lt__" (qual ++ "__lt__") x1 pm
  gt : KFn h' f2 nsA PK "__gt__" (qual ++ "__gt__") x2 pm
  eq : KFn h' f3 nsA PK "__eq__" (qual ++ "__eq__") x3 pm
  le : KFn h' f4 nsA PK "__le__" (qual ++ "__le__") x4 pm
  ge : KFn h' f5 nsA PK "__ge__" (qual ++ "__ge__") x5 pm
  sla : h'.get? sl = some { cls := .type "list", data := .seq #[.str "obj" ts] }
  sn : sl ≠ nsA ∧ sl ≠ PK
  fr : ∀ a ∈ [f0, f1, f2, f3, f4, f5, sl], h.get? a = none

section
variable {prog : Program} {w : World} {A : Around} {E : Value → Shared → Prop} {h : Heap} {g : Array GenState} {d : Drawn} {t : Nat} {os : OsState} {s : Shared} {env : Env} {nsA cK PK : Addr} {qK : Nat → Nat → Str} {mg m : Str → Option Value}
theorem Bd.push {o : Obj} (b : Bd h nsA cK PK qK mg m) : Bd (h.push o) nsA cK PK qK mg m := by
  have up : ∀ b o', h.get? b = some o' → (h.push o).get? b = some o' := fun b o' e => Heap.get?_push_of_some _ e
  obtain ⟨bm, e5, n5⟩ := b.n5
  exact ⟨b.ns.at fun o e => up _ _ e, b.tab.keep up, b.hd.keeps up, b.g.keeps up, bi_self b.b fun x o _ e => up _ _ e, b.n1, b.n2, b.n3, b.n4, bm, e5, n5⟩
theorem kp_none {a b x : Addr} {h h' : Heap} (k : Kp a b h h') (ha : x ≠ a) (hb : x ≠ b) (e : h'.get? x = none) : h.get? x = none := by
  cases q : h.get? x with
  | none => rfl
  | some o => rw [k _ _ ha hb q] at e; cases e

theorem body_run {scope : Scope} {x0 x1 x2 x3 x4 x5 : MD} {sm : Str} {k1 k2 k3 : Nat} {p1 p2 p3 p4 p5 p6 p7 p8 p9 p10 : Pos} {R : Result → Shared → Prop} (c : CEnv env nsA cK scope) (b : Bd h nsA cK PK qK mg m)
    (o0 : x0.Ok env scope qK "__init__") (o1 : x1.Ok env scope qK "__lt__") (o2 : x2.Ok env scope qK "__gt__") (o3 : x3.Ok env scope qK "__eq__") (o4 : x4.Ok env scope qK "__le__") (o5 : x5.Ok env scope qK "__ge__")
    (l1 : scope.names.lookup ("__module__" : Str) = some .local) (l2 : scope.names.lookup ("__slots__" : Str) = some .local) (l3 : scope.names.lookup ("__hash__" : Str) = some .local)
    (hR : ∀ f0 f1 f2 f3 f4 f5 sl ts tm h' t', KBody h h' nsA PK env.qual ((mg "__name__").getD .none) x0 x1 x2 x3 x4 x5 f0 f1 f2 f3 f4 f5 sl ts →
      Bd h' nsA cK PK qK mg (putM (putM (putM (putM (putM (putM (putM (putM (putM m "__module__" (.str sm tm)) "__slots__" (.ref sl)) "__init__" (.ref f0)) "__lt__" (.ref f1)) "__gt__" (.ref f2)) "__eq__" (.ref f3)) "__le__" (.ref f4)) "__ge__" (.ref f5)) "__hash__" .none) →
      R (.ok .next) ⟨h', g, d, t', os⟩) :
    codeAny (model prog w) A (.body [.Assign [.Name "__module__" p1] (.Constant (.str sm) k1 p2) p3, .Assign [.Name "__slots__" p4] (.List [.Constant (.str "obj") k2 p5] p6) p7,
      x0.stmt "__init__", x1.stmt "__lt__", x2.stmt "__gt__", x3.stmt "__eq__", x4.stmt "__le__", x5.stmt "__ge__", .Assign [.Name "__hash__" p8] (.Constant .none k3 p9) p10] env) R ⟨h, g, d, t, os⟩ := by
  refine codeAny_of_tree ?_
  show wpAny _ _ (do blockStart _ env; return PySem.Fin.done (← (execs _ env).onRaise (leaving env))) _ _ _
  have hbs : blockStart [.Assign [.Name "__module__" p1] (.Constant (.str sm) k1 p2) p3, .Assign [.Name "__slots__" p4] (.List [.Constant (.str "obj") k2 p5] p6) p7,
      x0.stmt "__init__", x1.stmt "__lt__", x2.stmt "__gt__", x3.stmt "__eq__", x4.stmt "__le__", x5.stmt "__ge__", .Assign [.Name "__hash__" p8] (.Constant .none k3 p9) p10] env = pure () := by
    unfold blockStart interactive
    rw [c.k]
    rfl
  refine wpAny_bind (wpAny_of_eq hbs (wpAny_bind (wpAny_onRaise ?_)))
  refine wpAny_execs_cons (wpAny_Assign_Name (wpAny_Constant_str (bd_store c (.inl l1) b fun h1 t1 b1 s1 => ?_)))
  refine wpAny_execs_cons (wpAny_Assign_Name (wpAny_List (wpAny_items_cons (wpAny_Constant_str (wpAny_items_nil ⟨by show 1 ≤ sizeLine; decide, ?_⟩)) rfl)))
  have hsl : (h1.push { cls := .type "list", data := .seq #[.str "obj" t1] }).get? h1.objs.size = some { cls := .type "list", data := .seq #[.str "obj" t1] } := Heap.get?_push_size _ rfl
  have fsl : h1.get? h1.objs.size = none := get_size h1
  have slA : h1.objs.size ≠ nsA := fun z => by obtain ⟨o, e, _⟩ := b1.ns.2; rw [← z, fsl] at e; cases e
  have slP : h1.objs.size ≠ PK := fun z => by obtain ⟨ps, e, _⟩ := b1.tab; rw [← z, fsl] at e; cases e
  refine bd_store c (.inl l2) b1.push fun h2 t2 b2 s2 => ?_
  have kp2 : Kp nsA PK h1 h2 := fun z o p q e => s2.extBut _ _ p (Heap.get?_push_of_some _ e)
  have hsl2 := s2.extBut _ _ slA hsl
  refine wpAny_execs_cons (bd_def c o0.hx b2 o0.hd0 o0.hk0 o0.ha o0.hcl o0.hq fun f0 c0 ct0 d0 h3 t3 b3 k3 r3 fA0 fP0 cA0 cP0 e0 cr0 => ?_)
  refine wpAny_execs_cons (bd_def c o1.hx b3 o1.hd0 o1.hk0 o1.ha o1.hcl o1.hq fun f1 c1 ct1 d1 h4 t4 b4 k4 r4 fA1 fP1 cA1 cP1 e1 cr1 => ?_)
  refine wpAny_execs_cons (bd_def c o2.hx b4 o2.hd0 o2.hk0 o2.ha o2.hcl o2.hq fun f2 c2 ct2 d2 h5 t5 b5 k5 r5 fA2 fP2 cA2 cP2 e2 cr2 => ?_)
  refine wpAny_execs_cons (bd_def c o3.hx b5 o3.hd0 o3.hk0 o3.ha o3.hcl o3.hq fun f3 c3 ct3 d3 h6 t6 b6 k6 r6 fA3 fP3 cA3 cP3 e3 cr3 => ?_)
  refine wpAny_execs_cons (bd_def c o4.hx b6 o4.hd0 o4.hk0 o4.ha o4.hcl o4.hq fun f4 c4 ct4 d4 h7 t7 b7 k7 r7 fA4 fP4 cA4 cP4 e4 cr4 => ?_)
  refine wpAny_execs_cons (bd_def c o5.hx b7 o5.hd0 o5.hk0 o5.ha o5.hcl o5.hq fun f5 c5 ct5 d5 h8 t8 b8 k8 r8 fA5 fP5 cA5 cP5 e5 cr5 => ?_)
  refine wpAny_execs_cons (wpAny_Assign_Name (wpAny_Constant_none (bd_store c (.inl l3) b8 fun h9 t9 b9 s9 => ?_)))
  refine wpAny_execs_nil (wpAny_pure ?_)
  have k9 : Kp nsA PK h8 h9 := sb_kp s9
  have kp1 : Kp nsA PK h h1 := sb_kp s1
  refine hR f0 f1 f2 f3 f4 f5 _ t1 _ h9 t9 ⟨(((((((kp1.trans kp2).trans k3).trans k4).trans k5).trans k6).trans k7).trans k8).trans k9,
    KFn.kp ⟨⟨c0, ct0, d0, e0, cr0, cA0, cP0⟩, fA0, fP0⟩ (((((k4.trans k5).trans k6).trans k7).trans k8).trans k9),
    KFn.kp ⟨⟨c1, ct1, d1, e1, cr1, cA1, cP1⟩, fA1, fP1⟩ ((((k5.trans k6).trans k7).trans k8).trans k9),
    KFn.kp ⟨⟨c2, ct2, d2, e2, cr2, cA2, cP2⟩, fA2, fP2⟩ (((k6.trans k7).trans k8).trans k9),
    KFn.kp ⟨⟨c3, ct3, d3, e3, cr3, cA3, cP3⟩, fA3, fP3⟩ ((k7.trans k8).trans k9),
    KFn.kp ⟨⟨c4, ct4, d4, e4, cr4, cA4, cP4⟩, fA4, fP4⟩ (k8.trans k9),
    KFn.kp ⟨⟨c5, ct5, d5, e5, cr5, cA5, cP5⟩, fA5, fP5⟩ k9,
    ((((((k3.trans k4).trans k5).trans k6).trans k7).trans k8).trans k9) _ _ slA slP hsl2, ⟨slA, slP⟩, ?_⟩ b9
  have q2 := kp1.trans kp2
  intro a ha
  simp only [List.mem_cons, List.not_mem_nil, or_false] at ha
  rcases ha with rfl | rfl | rfl | rfl | rfl | rfl | rfl
  · exact kp_none q2 fA0 fP0 r3
  · exact kp_none (q2.trans k3) fA1 fP1 r4
  · exact kp_none ((q2.trans k3).trans k4) fA2 fP2 r5
  · exact kp_none (((q2.trans k3).trans k4).trans k5) fA3 fP3 r6
  · exact kp_none ((((q2.trans k3).trans k4).trans k5).trans k6) fA4 fP4 r7
  · exact kp_none (((((q2.trans k3).trans k4).trans k5).trans k6).trans k7) fA5 fP5 r8
  · exact kp_none kp1 slA slP fsl
end
end Mine


open PySem PySem.W PyProof.Rows PySem.W.X
set_option maxHeartbeats 4000000
set_option pp.deepTerms false
set_option pp.deepTerms.threshold 3

namespace Mine
open PySem PyProof.Rows PySem.Builtin
section
variable {prog : Program} {w : World} {A : Around} {E : Value → Shared → Prop} {h : Heap} {g : Array GenState} {d : Drawn} {t : Nat} {os : OsState} {s : Shared}
theorem putM_dom {m : Str → Option Value} {x : Str} {v : Value} {L : List Str} (h : ∀ n, m n ≠ none → n ∈ L) : ∀ n, putM m x v n ≠ none → n ∈ x :: L := fun n hn => by
  by_cases e : n = x
  · rw [e]; exact .head _
  · exact .tail _ (h n (by unfold putM at hn; rwa [if_neg e] at hn))
theorem putM_quiet {H : Heap} {m : Str → Option Value} {x : Str} {v : Value} (h : ∀ n u, m n = some u → Quiet H u) (hv : Quiet H v) : ∀ n u, putM m x v n = some u → Quiet H u := fun n u e => by
  unfold putM at e
  split at e
  · cases e; exact hv
  · exact h n u e
/-- what the class's own names hold -/
noncomputable abbrev kMap (v0 : Value) (qual sm : Str) (tq tf tm : Tok) (fl : Nat) (sl f0 f1 f2 f3 f4 f5 st : Addr) : Str → Option Value :=
  putM (putM (putM (putM (putM (putM (putM (putM (putM (putM (putM (putM (putM (fun _ => none) "__module__" v0) "__qualname__" (.str qual tq)) "__firstlineno__" (.int fl tf)) "__module__" (.str sm tm)) "__slots__" (.ref sl)) "__init__" (.ref f0)) "__lt__" (.ref f1)) "__gt__" (.ref f2)) "__eq__" (.ref f3)) "__le__" (.ref f4)) "__ge__" (.ref f5)) "__hash__" .none) "__static_attributes__" (.ref st)

noncomputable def IsFn (h : Heap) (f : Addr) : Prop := ∃ o, h.get? f = some o ∧ o.cls = .type "function"
theorem IsFn.quiet {f : Addr} (x : IsFn h f) : Quiet h (.ref f) := ⟨"function", x, sn_fun⟩

theorem type_made {ns bT sl st f0 f1 f2 f3 f4 f5 : Addr} {v0 : Value} {sm : Str} {tk tq tf tm ts : Tok} {fl : Nat} {Q : Value → Shared → Prop}
    (hb : h.get? bT = some { cls := .type "tuple", data := .seq #[.type "object"] })
    (hn : DictNs h ns (kMap v0 "cmp_to_key.<locals>.K" sm tq tf tm fl sl f0 f1 f2 f3 f4 f5 st)) (hsl : h.get? sl = some { cls := .type "list", data := .seq #[.str "obj" ts] }) (hns : ns ≠ sysModules)
    (i0 : IsFn h f0) (i1 : IsFn h f1) (i2 : IsFn h f2) (i3 : IsFn h f3) (i4 : IsFn h f4) (i5 : IsFn h f5) (hst : ∃ o, h.get? st = some o ∧ o.cls = .type "tuple") (hv0 : ∃ s0 t0, v0 = .str s0 t0) (hno : ∀ C, Looks (model prog w) h (opaqueClassAbove (.ref C)) none)
    (hQ : ∀ C N dsc tkd h' t', h.get? C = none → h.get? N = none → h.get? dsc = none → h'.get? C = some (kObj C N "cmp_to_key.<locals>.K" (some (.ref bT)) (some (.str "K" tk)) (some (.str "cmp_to_key.<locals>.K" tq))) →
      h'.Ns1 N (km7 (kMap v0 "cmp_to_key.<locals>.K" sm tq tf tm fl sl f0 f1 f2 f3 f4 f5 st) dsc) → h'.get? dsc = some (descObj C tkd) → (∀ b o, h.get? b = some o → h'.get? b = some o) → Q (.ref C) ⟨h', g, d, t', os⟩) :
    wpAny (model prog w) A (call (.type "type") [.str "K" tk, .ref bT, .ref ns]) Q E ⟨h, g, d, t, os⟩ := by
  obtain ⟨oN, hnso, hnc⟩ := hn.2
  obtain ⟨s0, t0, rfl⟩ := hv0
  refine type_call (P := fun C s' => ∃ N dsc tkd h' t', s' = ⟨h', g, d, t', os⟩ ∧ h.get? C = none ∧ h.get? N = none ∧ h.get? dsc = none ∧ h'.get? C = some (kObj C N "cmp_to_key.<locals>.K" (some (.ref bT)) (some (.str "K" tk)) (some (.str "cmp_to_key.<locals>.K" tq))) ∧
      h'.Ns1 N (km7 (kMap (.str s0 t0) "cmp_to_key.<locals>.K" sm tq tf tm fl sl f0 f1 f2 f3 f4 f5 st) dsc) ∧ h'.get? dsc = some (descObj C tkd) ∧ (∀ b o, h.get? b = some o → h'.get? b = some o)) (fun A' Q' E' hq' => ?_) ?_ ?_
  · refine type_new (sl := sl) (tk' := ts) (tq := tq) (qn := "cmp_to_key.<locals>.K") hb hn.1 hnso hnc (by simpa using hns) ?_ hsl ?_
      ["__static_attributes__", "__hash__", "__ge__", "__le__", "__eq__", "__gt__", "__lt__", "__init__", "__slots__", "__module__", "__firstlineno__", "__qualname__", "__module__"]
      (putM_dom (putM_dom (putM_dom (putM_dom (putM_dom (putM_dom (putM_dom (putM_dom (putM_dom (putM_dom (putM_dom (putM_dom (putM_dom fun n hn => absurd rfl hn))))))))))))) (by decide) ?_ ?_ ?_ ?_ ?_ ?_ ?_ ?_ ?_ ?_ ?_ rfl rfl ?_ hno
      (fun C N dsc tkd h' t' x1 x2 x3 x4 x5 x6 x7 => hq' C _ ⟨N, dsc, tkd, h', t', rfl, x1, x2, x3, x4, x5, x6, x7⟩)
    any_goals kernel_rfl
    exact putM_quiet (putM_quiet (putM_quiet (putM_quiet (putM_quiet (putM_quiet (putM_quiet (putM_quiet (putM_quiet (putM_quiet (putM_quiet (putM_quiet (putM_quiet (fun n u e => by cases e) ⟨"str", rfl, sn_str⟩) ⟨"str", rfl, sn_str⟩) ⟨"int", rfl, sn_int⟩) ⟨"str", rfl, sn_str⟩)
      ⟨"list", ⟨_, hsl, rfl⟩, sn_list⟩) i0.quiet) i1.quiet) i2.quiet) i3.quiet) i4.quiet) i5.quiet) ⟨"NoneType", rfl, sn_none⟩) ⟨"tuple", hst, sn_tup⟩
  · rintro C s' ⟨N, dsc, tkd, h', t', rfl, x1, x2, x3, x4, x5, x6, x7⟩
    exact ⟨_, x4, rfl⟩
  · rintro C s' ⟨N, dsc, tkd, h', t', rfl, x1, x2, x3, x4, x5, x6, x7⟩
    exact hQ C N dsc tkd h' t' x1 x2 x3 x4 x5 x6 x7
end
end Mine


open PySem PySem.W PyProof.Rows PySem.W.X
set_option maxHeartbeats 4000000
set_option pp.deepTerms false
set_option pp.deepTerms.threshold 3

namespace Mine
open PySem PyProof.Rows PySem.Builtin
section
variable {prog : Program} {w : World} {A : Around} {E : Value → Shared → Prop} {h : Heap} {g : Array GenState} {d : Drawn} {t : Nat} {os : OsState} {s : Shared}

theorem at_getAttr? {M : Model} {v : Value} {n : Str} {Q : Option Value → Shared → Prop} (x : wpAny M A (getAttr? v n) Q E s) : wpAny M A (getAttr? v n) Q E s := x
theorem at_classCode {M : Model} {env : Env} {pos : Pos} {fl : Nat} {n q : Str} {sc : Scope} {Q : Value → Shared → Prop} (x : wpAny M A (classCode env pos fl n q sc) Q E s) : wpAny M A (classCode env pos fl n q sc) Q E s := x
theorem gen_heap' {α : Type} {M : Model} {T : Sem α} {Q : α → Shared → Prop} {H : Heap} (P : Heap → Prop) (hP : P H) (hq : ∀ h2, P h2 → wpAny M A T Q E ⟨h2, g, d, t, os⟩) : wpAny M A T Q E ⟨H, g, d, t, os⟩ := hq H hP
theorem ck_dgi : typeLookup (.type "dict") "__getitem__" = pure (some (.builtin "dict.__getitem__")) := by kernel_rfl
theorem KCode.keep {h h' : Heap} {P : Addr} {pos : Pos} {qual : Str} {qK : Nat → Nat → Str} {pk : Option (Addr × Addr)} (x : KCode h P pos qual qK pk) (k : ∀ b o, h.get? b = some o → h'.get? b = some o) : KCode h' P pos qual qK pk := by
  obtain ⟨ps, a, b, c⟩ := x
  refine ⟨ps, k _ _ a, b, ?_⟩
  cases pk with
  | none => exact c
  | some x => obtain ⟨c1, c2, c3, c4, c5⟩ := c; exact ⟨c1, c2.keeps k, c3.keeps k, c4.keep k, c5⟩
theorem at_enterFrame {M : Model} {Q : Unit → Shared → Prop} (x : wpAny M A enterFrame Q E s) : wpAny M A enterFrame Q E s := x
theorem cls_name {env : Env} {m mg : Str → Option Value} {v : Value} {Q : Value → Shared → Prop} {M : Model} (hk : env.scope.kind = .class) (hb : env.blockKind = .class) (hx : env.kindOf "__name__" = none) (hn : DictNs h env.locals m) (hm : m "__name__" = none) (hge : env.globals = mainGlobals) (hg : h.Ns mainGlobals mg)
    (hv : mg "__name__" = some v) (hq : Q v ⟨h, g, d, t, os⟩) : wpAny M A (loadName env "__name__") Q E ⟨h, g, d, t, os⟩ := by
  obtain ⟨o, ho, hc⟩ := hn.2
  unfold loadName
  rw [hk, hb, hx]
  refine wpAny_bind ?_
  unfold localGet
  refine wpAny_bind (wpAny_load' ho ?_)
  rw [hc]
  refine wpAny_nsGet (s := ⟨h, g, d, t, os⟩) hn.1.ns ?_
  rw [hm]
  unfold loadGlobal
  rw [hge]
  refine wpAny_bind (wpAny_nsGet (s := ⟨h, g, d, t, os⟩) hg ?_)
  rw [hv]
  exact wpAny_pure hq
theorem looks_op {M : Model} {C : Addr} {mc : Str → Option Value} (hn : h.Ns cStatics mc) (e : mc "thirdparty.any" = none) : Looks M h (opaqueClassAbove (.ref C)) none := by
  intro A Q E s k q
  unfold opaqueClassAbove anyOpaqueLoaded
  refine wpAny_bind (wpAny_bind (wpAny_nsGet (hn.keeps k) ?_))
  rw [e]
  exact wpAny_pure (wpAny_pure q)
/-- a method of the class -/
noncomputable def KF (h : Heap) (f : Addr) (name : Str) (x : MD) (pm : Value) : Prop :=
  ∃ c' ctv doc, h.get? f = some (fnMade name (("cmp_to_key.<locals>.K" : Str) ++ "." ++ name) x.params x.body x.sc x.clos doc pm c' ctv) ∧ h.CodeRec (.ref c') (("cmp_to_key.<locals>.K" : Str) ++ "." ++ name)
theorem KF.keep {h h' : Heap} {f : Addr} {name : Str} {x : MD} {pm : Value} (y : KF h f name x pm) (k : ∀ b o, h.get? b = some o → h'.get? b = some o) : KF h' f name x pm :=
  let ⟨c', ctv, doc, a, b⟩ := y; ⟨c', ctv, doc, k _ _ a, b.keeps k⟩
theorem KFn.kf {h : Heap} {f nsA PK : Addr} {name : Str} {x : MD} {pm : Value} (y : KFn h f nsA PK name (("cmp_to_key.<locals>.K" : Str) ++ "." ++ name) x pm) : KF h f name x pm :=
  let ⟨c', ctv, doc, a, b, _⟩ := y.at_; ⟨c', ctv, doc, a, b⟩
/-- the class as it was made -/
structure KCls (h : Heap) (C N dsc f0 f1 f2 f3 f4 f5 : Addr) (pm : Value) (x0 x1 x2 x3 x4 x5 : MD) : Prop where
  cls : ∃ k0 k2 k3, h.get? C = some (kObj C N "cmp_to_key.<locals>.K" k0 k2 k3)
  ns : ∃ v0 qual sm tq tf tm fl sl st, h.Ns N (km7 (kMap v0 qual sm tq tf tm fl sl f0 f1 f2 f3 f4 f5 st) dsc)
  dsc : ∃ tk, h.get? dsc = some (descObj C tk)
  i : KF h f0 "__init__" x0 pm
  lt : KF h f1 "__lt__" x1 pm
  gt : KF h f2 "__gt__" x2 pm
  eq : KF h f3 "__eq__" x3 pm
  le : KF h f4 "__le__" x4 pm
  ge : KF h f5 "__ge__" x5 pm
structure KMade (h h' : Heap) (P cK PK C N dsc f0 f1 f2 f3 f4 f5 : Addr) (pos : Pos) (qK : Nat → Nat → Str) (pk : Option (Addr × Addr)) (pm : Value) (x0 x1 x2 x3 x4 x5 : MD) : Prop where
  keep : ∀ b o, b ≠ P → b ≠ PK → h.get? b = some o → h'.get? b = some o
  grown : Grown h h' P
  code : KCode h' P pos "cmp_to_key.<locals>.K" qK (some (cK, PK))
  pkn : pk = none → h.get? PK = none
  pks : ∀ x, pk = some x → x = (cK, PK)
  fr : ∀ a ∈ [C, N, dsc, f0, f1, f2, f3, f4, f5], h.get? a = none
  k : KCls h' C N dsc f0 f1 f2 f3 f4 f5 pm x0 x1 x2 x3 x4 x5
theorem at_run {M : Model} {c : Code} {hh : Option Value} {Q : Flow → Shared → Prop} (x : wpAny M A (run c hh) Q E s) : wpAny M A (run c hh) Q E s := x
theorem at_call {M : Model} {c : Value} {vs : List Value} {kw : List (Str × Value)} {Q : Value → Shared → Prop} (x : wpAny M A (call c vs kw) Q E s) : wpAny M A (call c vs kw) Q E s := x
theorem build_class {env : Env} {scope : Scope} {fl : Nat} {pos : Pos} {c P : Addr} {qK : Nat → Nat → Str} {pk : Option (Addr × Addr)} {mg : Str → Option Value} {clos : List (Str × Addr)} {Q : Value → Shared → Prop} {v0 : Value}
    {x0 x1 x2 x3 x4 x5 : MD} {sm : Str} {k1 k2 k3 : Nat} {p1 p2 p3 p4 p5 p6 p7 p8 p9 p10 : Pos}
    (hge : env.globals = mainGlobals) (hcode : env.code = .ref c) (C : CodeHd h c P) (T : KCode h P pos "cmp_to_key.<locals>.K" qK pk) (hg : h.Ns mainGlobals mg) (hb : h.BuiltinsAt mg P) (hcl : closureFor scope env = pure clos)
    (hcc : scope.names.lookup ("__class__" : Str) = none) (hcd : scope.names.lookup ("__classdict__" : Str) = none) (hsm : ∃ o, h.get? sysModules = some o) (hgP : mainGlobals ≠ P)
    (hlim : h.NoLimit) (hlP : cStatics ≠ P) (hdep : A.depth < recursionLimit) (hk : scope.kind = .class) (hv0 : mg "__name__" = some v0)
    (l0 : scope.names.lookup ("__name__" : Str) = none) (l1 : scope.names.lookup ("__module__" : Str) = some .local) (l2 : scope.names.lookup ("__slots__" : Str) = some .local) (l3 : scope.names.lookup ("__hash__" : Str) = some .local)
    (l4 : scope.names.lookup ("__qualname__" : Str) = none) (l5 : scope.names.lookup ("__firstlineno__" : Str) = none) (l6 : scope.names.lookup ("__static_attributes__" : Str) = none)
    (hx : ∀ cenv : Env, cenv.scope = scope → cenv.cells = clos → cenv.qual = ("cmp_to_key.<locals>.K" : Str) ++ "." → x0.Ok cenv scope qK "__init__" ∧ x1.Ok cenv scope qK "__lt__" ∧ x2.Ok cenv scope qK "__gt__" ∧ x3.Ok cenv scope qK "__eq__" ∧ x4.Ok cenv scope qK "__le__" ∧ x5.Ok cenv scope qK "__ge__") (hv0q : ∃ s0 t0, v0 = .str s0 t0) (hop : ∃ mc, h.Ns cStatics mc ∧ mc "thirdparty.any" = none)
    (hQ : ∀ cK PK C N dsc f0 f1 f2 f3 f4 f5 h' t', KMade h h' P cK PK C N dsc f0 f1 f2 f3 f4 f5 pos qK pk ((mg "__name__").getD .none) x0 x1 x2 x3 x4 x5 → Q (.ref C) ⟨h', g, d, t', os⟩) :
    wpAny (model prog w) A (buildClass "K" "cmp_to_key.<locals>.K" [.type "object"] [] [.Assign [.Name "__module__" p1] (.Constant (.str sm) k1 p2) p3, .Assign [.Name "__slots__" p4] (.List [.Constant (.str "obj") k2 p5] p6) p7,
      x0.stmt "__init__", x1.stmt "__lt__", x2.stmt "__gt__", x3.stmt "__eq__", x4.stmt "__le__", x5.stmt "__ge__", .Assign [.Name "__hash__" p8] (.Constant .none k3 p9) p10] scope ["obj"] fl env pos none) Q E ⟨h, g, d, t, os⟩ := by
  have e1 := ck_sub_tt
  have e2 := ck_typeOfObject
  have e3 := ck_dgi
  unfold buildClass
  refine wpAny_bind ?_
  unfold newTuple
  refine wpAny_newObj_type ?_ (by size_fits)
  refine gen_heap' (g := g) (d := d) (t := t) (os := os) (fun h2 => h2.get? h.objs.size = some { cls := .type "tuple", data := .seq #[.type "object"] } ∧ ∀ b o, h.get? b = some o → h2.get? b = some o) ⟨Heap.get?_push_size _ rfl, fun b o e => Heap.get?_push_of_some _ e⟩ ?_
  rintro h1 ⟨hT1, k1⟩
  repeat ((fail_if_success (with_reducible refine at_getAttr? ?_)); walk_at "c_step")
  refine prep_attr fun pr h2 t2 hpn hp2 k2 => ?_
  walk_at "c_step"
  refine prep_call hp2 fun ns h3 hnn hn3 k3 => ?_
  have k13 : ∀ b o, h.get? b = some o → h3.get? b = some o := fun b o e => k3 b o (k2 b o (k1 b o e))
  have hns : ns ≠ sysModules := fun z => by
    obtain ⟨o, e⟩ := hsm
    rw [← z] at e
    rw [k2 _ _ (k1 _ _ e)] at hnn; cases hnn
  have hTn : (⟨h3, g, d, t2, os⟩ : Shared).TypeIs (.ref ns) "dict" := ⟨_, hn3, rfl⟩
  iterate 2 (walk_at "c_step")
  refine wpAny_ite_false (decide_eq_false (by simpa using hns)) ?_
  repeat ((fail_if_success (with_reducible refine at_classCode ?_)); first | (refine wpAny_ite_false (by first | (rw [hcc]; rfl) | (rw [hcd]; rfl)) ?_) | walk_at "c_step")
  refine class_code hcode (C.keeps k13) (T.keep k13) fun cK PK h4 t4 x4 gr4 T4 pn ps => ?_
  obtain ⟨bm, ob, hbm, hne0, _, hneP, hbo, hcls, hdict, hdata⟩ := hb
  have hg4 : h4.Ns mainGlobals mg := (hg.keeps k13).extBut x4 hgP
  have hbo4 := x4 _ _ hneP (k13 _ _ hbo)
  rw [hge]
  have hbmP : bm ≠ PK := fun z => by
    obtain ⟨_, _, _, _, _, _, ⟨ps, e, _⟩, _⟩ := T4
    rw [← z, hbo4] at e; cases e; cases hcls
  walk_at "c_step"
  refine wpAny_builtinsFor hg4 hbm hne0 hbo4 hcls hdict hdata ?_
  repeat ((fail_if_success (with_reducible refine at_enterFrame ?_)); first | (with_reducible refine wpAny_nsGet hg4 ?_) | (with_reducible refine wpAny_of_eq hcl ?_) | walk_at "c_step")
  have k4 : ∀ b o, b ≠ P → h3.get? b = some o → h4.get? b = some o := x4
  have nP : ns ≠ P := fun z => by
    obtain ⟨ps, e, _⟩ := T
    rw [z, k2 _ _ (k1 _ _ e)] at hnn; cases hnn
  have fK : ∀ b o, h.get? b = some o → b ≠ ns := fun b o e z => by rw [← z, k2 _ _ (k1 _ _ e)] at hnn; cases hnn
  obtain ⟨psP, eP, trP, aP, crP, hdP, tabP, nPK, nPc, ncK⟩ := id T4
  have hn4 := x4 _ _ nP hn3
  have nsPK : ns ≠ PK := fun z => by
    obtain ⟨ps, e, _⟩ := tabP
    rw [← z, hn4] at e; cases e
  have nscK : ns ≠ cK := fun z => by
    obtain ⟨o, vs, _, _, _, _, _, _, _, e, ec, _⟩ := id hdP
    rw [← z, hn4] at e; cases e
    have q : (Value.type "dict") = .type "code" := ec
    injection q with q
    exact absurd q (by decide)
  obtain ⟨og, esg, epg, hog, hdg, _⟩ := id hg4
  have gPK : mainGlobals ≠ PK := fun z => by
    obtain ⟨ps, e, _⟩ := tabP
    rw [← z, hog] at e; cases e; cases hdg
  have gns : mainGlobals ≠ ns := by obtain ⟨o, _, _, e, _⟩ := id hg; exact fK _ _ e
  refine gen_heap' (g := g) (d := d) (t := t4) (os := os) (fun h5 => Bd h5 ns cK PK qK mg (fun _ => none) ∧ ∀ b o, h4.get? b = some o → h5.get? b = some o) ⟨?_, fun b o e => Heap.get?_push_of_some _ e⟩ ?_
  · refine Bd.push ⟨⟨⟨_, #[], _, hn4, rfl, fun e he => absurd he (Array.not_mem_empty _), by unfold UniqKeys; exact .nil, fun n => rfl⟩, _, hn4, rfl⟩, tabP, hdP, hg4, ⟨bm, ob, hbm, hne0, by assumption, hbmP, hbo4, hcls, hdict, hdata⟩, nsPK, nscK, gns, gPK, bm, hbm, fK _ _ hbo⟩
  rintro h5 ⟨b5, k5⟩
  have lim5 : h5.NoLimit := by
    obtain ⟨mc, n, e⟩ := hlim
    obtain ⟨oc, es, ep, q, r⟩ := n
    exact ⟨mc, ⟨oc, es, ep, k5 _ _ (x4 _ _ hlP (k13 _ _ q)), r⟩, e⟩
  refine wpAny_enterFrame lim5 hdep ?_
  walk_at "c_step"
  refine wpAny_onRaise ?_
  have hbk : (if scope.kind.isAnnotationScope then ScopeKind.function else scope.kind) = .class := by rw [hk]; rfl
  refine wpAny_bind (cls_name (env := _) hk hbk l0 b5.ns rfl rfl b5.g hv0 ?_)
  refine wpAny_bind (bd_store (nsA := ns) (cK := cK) (scope := scope) ⟨rfl, hk, rfl, rfl, rfl⟩ (.inl l1) b5 fun h6 t6 b6 s6 => ?_)
  refine wpAny_bind (wpAny_mkText (wpAny_bind (bd_store (nsA := ns) (cK := cK) (scope := scope) ⟨rfl, hk, rfl, rfl, rfl⟩ (.inr ⟨l4, by decide +kernel⟩) b6 fun h7 t7 b7 s7 => ?_)))
  refine wpAny_bind (wpAny_mkInt' (wpAny_bind (bd_store (nsA := ns) (cK := cK) (scope := scope) ⟨rfl, hk, rfl, rfl, rfl⟩ (.inr ⟨l5, by decide +kernel⟩) b7 fun h8 t8 b8 s8 => ?_)))
  repeat ((fail_if_success (with_reducible refine at_run ?_)); walk_at "c_step")
  refine wpAny_run ?_
  refine body_run (nsA := ns) (cK := cK) (scope := scope) ⟨rfl, hk, rfl, rfl, rfl⟩ b8 (hx _ rfl rfl rfl).1 (hx _ rfl rfl rfl).2.1 (hx _ rfl rfl rfl).2.2.1 (hx _ rfl rfl rfl).2.2.2.1 (hx _ rfl rfl rfl).2.2.2.2.1 (hx _ rfl rfl rfl).2.2.2.2.2 l1 l2 l3 fun f0 f1 f2 f3 f4 f5 sl ts tm h9 t9 kb b9 => ?_
  repeat ((fail_if_success (with_reducible refine at_call ?_)); first | (with_reducible refine wpAny_onRaise ?_) | (with_reducible refine wpAny_mkStrs fun vsS => ?_) | (with_reducible refine wpAny_newTextTuple ?_) | (refine bd_store (nsA := ns) (cK := cK) (scope := scope) ⟨rfl, hk, rfl, rfl, rfl⟩ (.inr ⟨l6, by decide +kernel⟩) b9.push fun h10 t10 b10 s10 => ?_) | walk_at "c_step")
  have hstN : h9.objs.size ≠ ns := fun z => by obtain ⟨o, e, _⟩ := b9.ns.2; rw [← z, get_size] at e; cases e
  have hst : ∃ o, h10.get? h9.objs.size = some o ∧ o.cls = .type "tuple" := ⟨_, s10.extBut _ _ hstN (Heap.get?_push_size _ rfl), rfl⟩
  have k9 : Kp ns PK h9 h10 := fun b o p q e => s10.extBut _ _ p (Heap.get?_push_of_some _ e)
  have k58 : ∀ b o, b ≠ ns → h4.get? b = some o → h8.get? b = some o := fun b o q e => s8.extBut _ _ q (s7.extBut _ _ q (s6.extBut _ _ q (k5 _ _ e)))
  have kAll : ∀ b o, b ≠ P → b ≠ ns → b ≠ PK → h3.get? b = some o → h10.get? b = some o := fun b o p q r e => k9 _ _ q r (kb.kp _ _ q r (k58 _ _ q (x4 _ _ p e)))
  have bTP : h.objs.size ≠ P := fun z => by obtain ⟨ps, e, _⟩ := T; rw [← z, get_size] at e; cases e
  have bTn : h.objs.size ≠ ns := fun z => by rw [← z, k2 _ _ hT1] at hnn; cases hnn
  have hT3 := k3 _ _ (k2 _ _ hT1)
  have bTK : h.objs.size ≠ PK := fun z => by
    obtain ⟨ps, e, _⟩ := tabP
    rw [← z, x4 _ _ bTP hT3] at e; cases e
  have hbT := kAll _ _ bTP bTn bTK hT3
  have csPK : cStatics ≠ PK := fun z => by
    obtain ⟨mc, ⟨o, es, ep, q, qd, _⟩, _⟩ := id hlim
    obtain ⟨ps, e, _⟩ := tabP
    rw [← z, x4 _ _ hlP (k13 _ _ q)] at e; cases e; cases qd
  have hno10 : ∀ C, Looks (model prog w) h10 (opaqueClassAbove (.ref C)) none := fun C => by
    obtain ⟨mc, ⟨o, es, ep, q, r⟩, e⟩ := hop
    exact looks_op ⟨o, es, ep, kAll _ _ hlP (fK _ _ q) csPK (k13 _ _ q), r⟩ e
  have isf : ∀ {f : Addr} {name q : Str} {x : MD}, KFn h9 f ns PK name q x ((mg "__name__").getD .none) → IsFn h10 f := fun y => by
    obtain ⟨⟨c', ctv, doc, e, _⟩, _⟩ := y.kp k9
    exact ⟨_, e, rfl⟩
  refine type_made hbT b10.ns (k9 _ _ kb.sn.1 kb.sn.2 kb.sla) hns (isf kb.i) (isf kb.lt) (isf kb.gt) (isf kb.eq) (isf kb.le) (isf kb.ge) hst hv0q hno10 fun C N dsc tkd h11 t11 y1 y2 y3 y4 y5 y6 y7 => ?_
  repeat walk_at "c_step"
  have there : ∀ b o, h.get? b = some o → ∃ o', h10.get? b = some o' := fun b o e => by
    by_cases e1 : b = P
    · exact ⟨_, e1 ▸ k9 _ _ (fun z => nP z.symm) nPK (kb.kp _ _ (fun z => nP z.symm) nPK (k58 _ _ (fun z => nP z.symm) eP))⟩
    by_cases e2 : b = PK
    · obtain ⟨ps, e', _⟩ := b10.tab; exact ⟨_, e2 ▸ e'⟩
    · exact ⟨o, kAll _ _ e1 (fK _ _ e) e2 (k13 _ _ e)⟩
  have there8 : ∀ b o, h.get? b = some o → ∃ o', h8.get? b = some o' := fun b o e => by
    by_cases e1 : b = P
    · exact ⟨_, e1 ▸ k58 _ _ (fun z => nP z.symm) eP⟩
    · exact ⟨o, k58 _ _ (fK _ _ e) (x4 _ _ e1 (k13 _ _ e))⟩
  have fr10 : ∀ a, h10.get? a = none → h.get? a = none := fun a e => by
    cases q : h.get? a with
    | none => rfl
    | some o => obtain ⟨o', e'⟩ := there a o q; rw [e'] at e; cases e
  have fr8 : ∀ a, h8.get? a = none → h.get? a = none := fun a e => by
    cases q : h.get? a with
    | none => rfl
    | some o => obtain ⟨o', e'⟩ := there8 a o q; rw [e'] at e; cases e
  have eP11 : h11.get? P = some (tabObj psP) := y7 _ _ (k9 _ _ (fun z => nP z.symm) nPK (kb.kp _ _ (fun z => nP z.symm) nPK (k58 _ _ (fun z => nP z.symm) eP)))
  have cKn : cK ≠ ns := fun z => nscK z.symm
  refine hQ cK PK C N dsc f0 f1 f2 f3 f4 f5 h11 t11 ⟨fun b o e1 e2 e => y7 _ _ (kAll _ _ e1 (fK _ _ e) e2 (k13 _ _ e)), ?_, ⟨psP, eP11, trP, aP, ?_, b10.hd.keeps y7, b10.tab.keep y7, nPK, nPc, ncK⟩, fun z => ?_, ps, ?_, ⟨⟨_, _, _, y4⟩, ⟨_, _, _, _, _, _, _, _, _, y5.ns⟩, ⟨_, y6⟩, ((kb.i.kp k9).kf).keep y7, ((kb.lt.kp k9).kf).keep y7, ((kb.gt.kp k9).kf).keep y7, ((kb.eq.kp k9).kf).keep y7, ((kb.le.kp k9).kf).keep y7, ((kb.ge.kp k9).kf).keep y7⟩⟩
  · obtain ⟨psA, more, g1, g2⟩ := gr4
    obtain ⟨psB, eB, _⟩ := id T
    have : psA = psB := by have := (k13 _ _ eB).symm.trans g1; injection this with q; injection q with _ _ q; injection q with q; exact q.symm
    subst this
    rw [eP] at g2; cases g2
    exact ⟨psA, more, eB, eP11⟩
  · exact (codeRec_kp (codeRec_kp crP (fun b o p q e => k58 _ _ p e) cKn ncK) (kb.kp.trans k9) cKn ncK).keeps y7
  · have := pn z
    cases q : h.get? PK with
    | none => rfl
    | some o => rw [k13 _ _ q] at this; cases this
  · intro a ha
    simp only [List.mem_cons, List.not_mem_nil, or_false] at ha
    rcases ha with rfl | rfl | rfl | rfl | rfl | rfl | rfl | rfl | rfl
    · exact fr10 _ y1
    · exact fr10 _ y2
    · exact fr10 _ y3
    all_goals exact fr8 _ (kb.fr _ (by simp))
end
end Mine


local macro_rules | `(tactic| walk_at "ca_step") => `(tactic| first
  | with_reducible (first | refine wpAny_pure ?_ | refine wpAny_bind ?_ | refine wpAny_holding ?_ | refine wpAny_rule ?_ | refine wpAny_standAt ?_ | refine wpAny_of_eq (by assumption) ?_)
  | ((with_reducible refine wpAny_ite_false ?_ ?_); focus (rfl; done))
  | ((with_reducible refine wpAny_ite_true ?_ ?_); focus (rfl; done))
  | wp_delta)
open PySem PySem.W PyProof.Rows PySem.W.X
set_option maxHeartbeats 4000000
set_option pp.deepTerms false
set_option pp.deepTerms.threshold 3

namespace Mine
open PySem PyProof.Rows PySem.Builtin
noncomputable def fPos : Stmt → Pos
  | .FunctionDef _ _ _ _ _ _ _ _ _ p => p
  | _ => default
noncomputable def mdOf (st : Stmt) (clos : List (Str × Addr)) : MD := ⟨fArgs st, fBody st, fScope st, fPos st, clos⟩
noncomputable def mc1 (cc : Addr) : List (Str × Addr) := [("mycmp", cc)]
/-- the class's text: where its parts stand -/
structure KSrc where
  pb : Pos
  p1 : Pos
  p2 : Pos
  p3 : Pos
  p4 : Pos
  p5 : Pos
  p6 : Pos
  p7 : Pos
  p8 : Pos
  p9 : Pos
  p10 : Pos
  pos : Pos
  k1 : Nat
  k2 : Nat
  k3 : Nat
  sm : Str
  stI : Stmt
  stLt : Stmt
  stGt : Stmt
  stEq : Stmt
  stLe : Stmt
  stGe : Stmt
  scope : Scope
noncomputable def kOf : Stmt → Option KSrc
  | .ClassDef _ [.Name _ pb] _ [.Assign [.Name _ p1] (.Constant (.str sm) k1 p2) p3, .Assign [.Name _ p4] (.List [.Constant _ k2 p5] p6) p7, sI, sLt, sGt, sEq, sLe, sGe, .Assign [.Name _ p8] (.Constant _ k3 p9) p10] _ _ scope _ _ _ pos =>
    some ⟨pb, p1, p2, p3, p4, p5, p6, p7, p8, p9, p10, pos, k1, k2, k3, sm, sI, sLt, sGt, sEq, sLe, sGe, scope⟩
  | _ => none
noncomputable def KSrc.stmt (k : KSrc) : Stmt := .ClassDef "K" [.Name "object" k.pb] [] [.Assign [.Name "__module__" k.p1] (.Constant (.str k.sm) k.k1 k.p2) k.p3, .Assign [.Name "__slots__" k.p4] (.List [.Constant (.str "obj") k.k2 k.p5] k.p6) k.p7,
  k.stI, k.stLt, k.stGt, k.stEq, k.stLe, k.stGe, .Assign [.Name "__hash__" k.p8] (.Constant .none k.k3 k.p9) k.p10] [] [] k.scope none "K" ["obj"] k.pos
noncomputable def kq (name : Str) : Str := ("cmp_to_key.<locals>.K" : Str) ++ "." ++ name
noncomputable def KSrc.qK (k : KSrc) : Nat → Nat → Str := fun l c =>
  if l == (fPos k.stI).line && c == (fPos k.stI).col then kq "__init__" else if l == (fPos k.stLt).line && c == (fPos k.stLt).col then kq "__lt__" else if l == (fPos k.stGt).line && c == (fPos k.stGt).col then kq "__gt__" else
  if l == (fPos k.stEq).line && c == (fPos k.stEq).col then kq "__eq__" else if l == (fPos k.stLe).line && c == (fPos k.stLe).col then kq "__le__" else kq "__ge__"
structure IsM (k : KSrc) (st : Stmt) (name : Str) (free : Bool) : Prop where
  shape : ∀ clos, (mdOf st clos).stmt name = st
  hd0 : (fArgs st).defaults = []
  hk0 : (fArgs st).kw_defaults = []
  ha : ∀ env, annTrees (fArgs st) none env = []
  fr : ∀ x, (x, NameKind.free) ∈ (fScope st).names → free = true ∧ x = "mycmp"
  clos : ∀ env, Mine.clos env (fScope st).names [] = if free then mc1 ((env.cells.lookup ("mycmp" : Str)).getD 0) else []
  hq : k.qK (fPos st).line (fPos st).col = kq name
  hx : k.scope.names.lookup name = some .local
structure KSrc.Ok (k : KSrc) : Prop where
  i : IsM k k.stI "__init__" false
  lt : IsM k k.stLt "__lt__" true
  gt : IsM k k.stGt "__gt__" true
  eq : IsM k k.stEq "__eq__" true
  le : IsM k k.stLe "__le__" true
  ge : IsM k k.stGe "__ge__" true
  hk : k.scope.kind = .class
  hcc : k.scope.names.lookup ("__class__" : Str) = none
  hcd : k.scope.names.lookup ("__classdict__" : Str) = none
  l0 : k.scope.names.lookup ("__name__" : Str) = none
  l1 : k.scope.names.lookup ("__module__" : Str) = some .local
  l2 : k.scope.names.lookup ("__slots__" : Str) = some .local
  l3 : k.scope.names.lookup ("__hash__" : Str) = some .local
  l4 : k.scope.names.lookup ("__qualname__" : Str) = none
  l5 : k.scope.names.lookup ("__firstlineno__" : Str) = none
  l6 : k.scope.names.lookup ("__static_attributes__" : Str) = none
  fr : ∀ x, (x, NameKind.free) ∈ k.scope.names → x = "mycmp"
  clos : ∀ env, Mine.clos env k.scope.names [] = mc1 ((env.cells.lookup ("mycmp" : Str)).getD 0)

theorem IsM.ok {k : KSrc} {st : Stmt} {name : Str} {b : Bool} (x : IsM k st name b) {cc : Addr} {env : Env} (hc : env.cells = (mc1 cc)) (hq : env.qual = ("cmp_to_key.<locals>.K" : Str) ++ ".") : (mdOf st (if b then (mc1 cc) else [])).Ok env k.scope k.qK name where
  hd0 := x.hd0
  hk0 := x.hk0
  ha := x.ha env
  hcl := by
    have e : env.cells.lookup ("mycmp" : Str) = some cc := by rw [hc]; rfl
    show closureFor (fScope st) env = _
    rw [closureFor_clos fun y hy => ⟨cc, by rw [(x.fr y hy).2]; exact e⟩, x.clos, e]
    rfl
  hq := by rw [hq]; exact x.hq
  hx := x.hx

section
variable {prog : Program} {w : World} {A : Around} {E : Value → Shared → Prop} {h : Heap} {g : Array GenState} {d : Drawn} {t : Nat} {os : OsState} {s : Shared}

/-- the class made with the cell cc -/
noncomputable abbrev KMadeS (k : KSrc) (cc : Addr) (h h' : Heap) (P cK PK C N dsc f0 f1 f2 f3 f4 f5 : Addr) (pk : Option (Addr × Addr)) (pm : Value) : Prop :=
  KMade h h' P cK PK C N dsc f0 f1 f2 f3 f4 f5 k.pos k.qK pk pm (mdOf k.stI []) (mdOf k.stLt (mc1 cc)) (mdOf k.stGt (mc1 cc)) (mdOf k.stEq (mc1 cc)) (mdOf k.stLe (mc1 cc)) (mdOf k.stGe (mc1 cc))

/-- what the frame around must be -/
structure CmpEnv (env : Env) (h : Heap) (k : KSrc) (c P cc : Addr) (pk : Option (Addr × Addr)) (mg mb ml : Str → Option Value) (v0 : Value) : Prop where
  kind : env.scope.kind = .function
  glob : env.globals = mainGlobals
  bi : env.builtins = builtinsNs
  code : env.code = .ref c
  qual : env.qual ++ "K" = "cmp_to_key.<locals>.K"
  kK : env.kindOf "K" = some .local
  kO : env.kindOf "object" = some .globalImplicit
  cell : env.cells.lookup ("mycmp" : Str) = some cc
  loc : h.Ns env.locals ml
  hd : CodeHd h c P
  kc : KCode h P k.pos "cmp_to_key.<locals>.K" k.qK pk
  g : h.Ns mainGlobals mg
  b : h.Ns builtinsNs mb
  ba : h.BuiltinsAt mg P
  go : mg "object" = none
  bo : mb "object" = some (.type "object")
  bb : mb "__build_class__" = some (.builtin "__build_class__")
  gn : mg "__name__" = some v0
  v0 : ∃ s0 t0, v0 = .str s0 t0
  sm : ∃ o, h.get? sysModules = some o
  lim : h.NoLimit
  op : ∃ mc, h.Ns cStatics mc ∧ mc "thirdparty.any" = none
  gP : mainGlobals ≠ P
  sP : cStatics ≠ P
  lP : env.locals ≠ P
  lPK : ∀ x, pk = some x → env.locals ≠ x.2

theorem at_build {M : Model} {a b : Str} {c : List Value} {e : List (Str × Value)} {f : List Stmt} {sc : Scope} {st : List Str} {n : Nat} {env : Env} {pos : Pos} {o : Option Value} {Q : Value → Shared → Prop} (x : wpAny M A (buildClass a b c e f sc st n env pos o) Q E s) : wpAny M A (buildClass a b c e f sc st n env pos o) Q E s := x
theorem cmp_body {env : Env} {k : KSrc} {c P cc : Addr} {pk : Option (Addr × Addr)} {mg mb ml : Str → Option Value} {v0 : Value} {pr pr' : Pos} {Q : Flow → Shared → Prop} (ko : k.Ok) (ce : CmpEnv env h k c P cc pk mg mb ml v0) (hdep : A.depth < recursionLimit)
    (hQ : ∀ cK PK C N dsc f0 f1 f2 f3 f4 f5 h1 h2 t2, KMadeS k cc h h1 P cK PK C N dsc f0 f1 f2 f3 f4 f5 pk ((mg "__name__").getD .none) → Heap.SameBut env.locals h1 h2 → Q (.ret (.ref C)) ⟨h2, g, d, t2, os⟩) :
    wpAny (model prog w) A (execs [k.stmt, .Return (some (.Name "K" pr)) pr'] env) Q E ⟨h, g, d, t, os⟩ := by
  refine wpAny_execs_cons ?_
  unfold KSrc.stmt
  rw [arm_exec_ClassDef]
  refine wpAny_bind (wpAny_pure (wpAny_bind (wpAny_standAt (wpAny_bind ?_))))
  unfold buildClassGuard
  rw [ce.bi]
  refine wpAny_bind (wpAny_nsGet (s := ⟨h, g, d, t, os⟩) ce.b ?_)
  rw [ce.bb]
  refine wpAny_pure (wpAny_bind (wpAny_holding (wpAny_bind ?_)))
  have hqn : qualnameIn env "K" "K" = "cmp_to_key.<locals>.K" := by
    unfold qualnameIn; rw [ce.kK]; exact ce.qual
  unfold evalArgs
  iterate 4 (walk_at "ca_step")
  refine Calls.Name_function_global ce.kind ce.kO (Calls.loadGlobal_builtin (s := ⟨h, g, d, t, os⟩) (by rw [ce.glob]; exact ce.g) ce.go (by rw [ce.bi]; exact ce.b) ce.bo ?_) (by decide +kernel)
  repeat ((fail_if_success (with_reducible refine at_build ?_)); walk_at "ca_step")
  rw [hqn, ← ko.i.shape [], ← ko.lt.shape (mc1 cc), ← ko.gt.shape (mc1 cc), ← ko.eq.shape (mc1 cc), ← ko.le.shape (mc1 cc), ← ko.ge.shape (mc1 cc)]
  refine build_class (clos := mc1 cc) ce.glob ce.code ce.hd ce.kc ce.g ce.ba ?_ ko.hcc ko.hcd ce.sm ce.gP ce.lim ce.sP hdep ko.hk ce.gn ko.l0 ko.l1 ko.l2 ko.l3 ko.l4 ko.l5 ko.l6
    (fun cenv _ e2 e3 => ⟨ko.i.ok (cc := cc) e2 e3, ko.lt.ok e2 e3, ko.gt.ok e2 e3, ko.eq.ok e2 e3, ko.le.ok e2 e3, ko.ge.ok e2 e3⟩) ce.v0 ce.op fun cK PK C N dsc f0 f1 f2 f3 f4 f5 h1 t1 km => ?_
  · rw [closureFor_clos fun y hy => ⟨cc, by rw [ko.fr y hy]; exact ce.cell⟩, ko.clos, ce.cell]; rfl
  have lPK : env.locals ≠ PK := fun z => by
    cases hpk : pk with
    | none =>
      have := km.pkn hpk
      obtain ⟨o, _, _, e, _⟩ := id ce.loc
      rw [z, this] at e; cases e
    | some x => have := km.pks x hpk; exact ce.lPK x hpk (by rw [this]; exact z)
  have loc1 : h1.Ns env.locals ml := by
    obtain ⟨o, es, ep, e, r⟩ := id ce.loc
    exact ⟨o, es, ep, km.keep _ _ ce.lP lPK e, r⟩
  refine wpAny_bind (wpAny_pure (wpAny_bind (wpAny_standAt (wpAny_bind (wpAny_bindName (wpAny_storeName_local (s := ⟨h1, g, d, t1, os⟩) ce.kK loc1 (fun h2 n2 s2 => wpAny_pure ?_) (by rw [ce.kind]; rfl)))))))
  refine wpAny_execs_cons (wpAny_Return_some (wpAny_Name (wpAny_loadName_local ce.kind ce.kK n2 (if_pos rfl) ?_) (by decide +kernel)))
  exact hQ cK PK C N dsc f0 f1 f2 f3 f4 f5 h1 h2 _ km s2
end
end Mine


open PySem PySem.W PyProof.Rows PySem.W.X
set_option maxHeartbeats 4000000
set_option pp.deepTerms false
set_option pp.deepTerms.threshold 3

namespace Mine
open PySem PyProof.Rows
/-- a new frame for a function -/
theorem env_fn2 {B : Base} {A : Around} {n : Nat} {T : List Addr} {s : Shared} {a : Addr} {fd : FuncData} {binds : List (Str × Value)} {ds : List (Bool × D)} {ρp ρ₀ ρ₁ : List (Str × Ent)} {W : List Addr} {A' : Around} {Q : Env → Shared → Prop}
    (rm : Room A (n + 1)) (tsub : ∀ a ∈ T, a ∈ B.T) (start : Ext B.T B.h₁ s.heap) (fn : FnIn s.heap a fd) (clo : CloOk W s.heap fd.closure ρp) (lo : LayOf B ρp fd.scope.names ρ₀) (pa : PutAll ρ₀ binds ds ρ₁) (hand : Hand s.heap W s.heap (binds.map (·.2)) ds)
    (wal : ∀ a ∈ W, ∃ o, s.heap.get? a = some o)
    (q : ∀ env s', Fine ⟨B, A.deeper env, env, s, n, T, closable fd.scope.names⟩ → OkP ⟨B, A.deeper env, env, s, n, T, closable fd.scope.names⟩ W [] ρ₁ s' → env.scope = fd.scope → env.code = fd.code → env.qual = fd.qualname ++ ".<locals>." → env.locals = s.heap.objs.size → Q env s') :
    wpAny (model B.prog B.w) A' (newFunctionEnv fd.scope fd.globals fd.closure binds (fd.qualname ++ ".<locals>.") (some a) fd.code Option.none fd.builtins) Q NoE s := by
  simp only [newFunctionEnv, Option.isSome_none, Bool.false_eq_true, if_false]
  refine wpAny_bind (wpAny_alloc ?_)
  refine wpAny_bind (wpAny_layCells _ (fun name kind cells => by cases hkc : kind == NameKind.cell <;> simp [hkc]) _ _ _ _ ?_)
  rw [show ({ s with heap := s.heap.push { cls := .type "frame", data := .dict #[] } } : Shared).heap.objs.size = s.heap.objs.size + 1 from Heap.size_push ..]
  have la := laid1 (h := s.heap) (names := fd.scope.names) (closure := fd.closure) fn.nd (.type "frame") clo.inj clo.al
  generalize hcs : cellsFrom (s.heap.objs.size + 1) fd.scope.names fd.closure = cells at la ⊢
  generalize henv : ({ scope := fd.scope, locals := s.heap.objs.size, globals := fd.globals, cells := cells, qual := fd.qualname ++ ".<locals>.", func := some a, code := fd.code, frame := some s.heap.objs.size, builtins := fd.builtins } : Env) = env
  have esc : env.scope = fd.scope := by rw [← henv]
  have elo : env.locals = s.heap.objs.size := by rw [← henv]
  have ece : env.cells = cells := by rw [← henv]
  have kk : ∀ x k, (x, k) ∈ fd.scope.names → env.kindOf x = some k := fun x k h => by unfold Env.kindOf; rw [esc]; exact nodup_lookup fn.nd h
  have F : Fine ⟨B, A.deeper env, env, s, n, T, closable fd.scope.names⟩ := ⟨by rw [esc]; exact fn.kind, by rw [← henv]; exact fn.globals, by rw [← henv]; exact fn.builtins, start, tsub, (fun x hx => by
    rcases closable_mem hx with h | h
    · exact .inl (kk x _ h)
    · exact .inr (kk x _ h)), rm.hnd, (rm.deeper env).dep, (rm.deeper env).uni, fun x y c h1 h2 => la.inj x y c (by rw [← ece]; exact h1) (by rw [← ece]; exact h2)⟩
  have ok : OkP ⟨B, A.deeper env, env, s, n, T, closable fd.scope.names⟩ W [] ρ₀ { s with heap := _, toks := s.toks } :=
    ok_new (X := ⟨B, A.deeper env, env, s, n, T, closable fd.scope.names⟩) (s₃ := s) (SExt.refl _ _) fn.nd la lo elo ece (fun x h => kk x _ h) (fun x h => kk x _ h) (fun x h => kk x _ h) (fun x h => .inr (kk x _ h)) (fun x e hm hk _ => clo.ent x e hm hk) wal fun p hp => (nomatch hp)
  refine wpAny_bind ?_
  exact puts_ok (A := A') F _ (fun _ _ _ => rfl) _ _ pa ok (hand.keep la.keep) fun s' ok' => wpAny_pure (q env s' F ok' esc (by rw [← henv]) (by rw [← henv]) elo)
theorem call_fn2 {B : Base} {A : Around} {n : Nat} {T : List Addr} {s : Shared} {a : Addr} {fd : FuncData} {body : List Stmt} {vs : List Value} {binds : List (Str × Value)} {ds : List (Bool × D)} {ρp ρ₀ ρ₁ : List (Str × Ent)} {W : List Addr} {R : Result → Shared → Prop}
    (rm : Room A (n + 1)) (tsub : ∀ a ∈ T, a ∈ B.T) (start : Ext B.T B.h₁ s.heap) (fn : FnIn s.heap a fd) (hbody : fd.body = .stmts body) (hbind : bindArgs fd ⟨vs, []⟩ = pure binds) (clo : CloOk W s.heap fd.closure ρp) (lo : LayOf B ρp fd.scope.names ρ₀)
    (pa : PutAll ρ₀ binds ds ρ₁) (hand : Hand s.heap W s.heap (binds.map (·.2)) ds) (wal : ∀ a ∈ W, ∃ o, s.heap.get? a = some o)
    (run : ∀ env s', Fine ⟨B, A.deeper env, env, s, n, T, closable fd.scope.names⟩ → OkP ⟨B, A.deeper env, env, s, n, T, closable fd.scope.names⟩ W [] ρ₁ s' → env.scope = fd.scope → env.code = fd.code → env.qual = fd.qualname ++ ".<locals>." → env.locals = s.heap.objs.size →
      wpAny (model B.prog B.w) (A.deeper env) (execs body env) (fun f s'' => R (.ok (.ret (match f with | .ret v => v | _ => .none))) s'') NoE s') :
    codeAny (model B.prog B.w) A (.call (.ref a) ⟨vs, []⟩) R s := by
  obtain ⟨o, ho, hd⟩ := fn.obj
  refine codeAny_call_function (by have := rm.dep; omega) ho hd fn.co fn.gen hbody fn.code ?_
  rw [hbind]
  refine wpAny_pure (wpAny_mono (env_fn2 rm tsub start fn clo lo pa hand wal (Q := fun env s₂ => s₂.heap.NoLimit ∧ codeAny (model B.prog B.w) A (.func body env) R s₂) fun env s' F ok z1 z2 z3 z4 => ⟨ok.ok.lim F, codeAny_func (wpAny_mono (run env s' F ok z1 z2 z3 z4) (fun _ _ h => h) fun _ _ h => h.elim)⟩) (fun _ _ h => h) fun _ _ h => h.elim)



noncomputable def cmpNames : List (Str × NameKind) := [((Str.ofString "mycmp"), .cell), (Str.ofString "K", .local), (Str.ofString "object", .globalImplicit)]
/-- the def of cmp_to_key, as its text has it -/
structure CmpSt (st : Stmt) (k : KSrc) (ar : Arg) (pr pr' : Pos) : Prop where
  body : fBody st = [k.stmt, .Return (some (.Name "K" pr)) pr']
  args : fArgs st = ⟨[], [ar], Option.none, [], [], Option.none, []⟩
  arg : ar.arg = "mycmp"
  names : (fScope st).names = cmpNames

/-- what the top has left and nothing changes -/
structure Wd (h : Heap) (mg mb : Str → Option Value) (c P : Addr) (v0 : Value) : Prop where
  g : h.Ns mainGlobals mg
  b : h.Ns builtinsNs mb
  ba : h.BuiltinsAt mg P
  go : mg "object" = none
  bo : mb "object" = some (.type "object")
  bb : mb "__build_class__" = some (.builtin "__build_class__")
  gn : mg "__name__" = some v0
  v0 : ∃ s0 t0, v0 = .str s0 t0
  sm : ∃ o, h.get? sysModules = some o
  lim : h.NoLimit
  op : ∃ mc, h.Ns cStatics mc ∧ mc "thirdparty.any" = none
  gP : mainGlobals ≠ P
  sP : cStatics ≠ P
  hd : CodeHd h c P
theorem Wd.keep {h h' : Heap} {mg mb : Str → Option Value} {c P : Addr} {v0 : Value} (x : Wd h mg mb c P v0) (k : ∀ b o, h.get? b = some o → h'.get? b = some o) : Wd h' mg mb c P v0 :=
  { x with g := x.g.keeps k, b := x.b.keeps k, ba := bi_self x.ba fun b o _ e => k b o e, sm := (let ⟨o, e⟩ := x.sm; ⟨o, k _ _ e⟩), lim := (let ⟨mc, n, e⟩ := x.lim; ⟨mc, n.keeps k, e⟩), op := (let ⟨mc, n, e⟩ := x.op; ⟨mc, n.keeps k, e⟩), hd := x.hd.keeps k }

/-- what a call of cmp_to_key leaves -/
structure CmpRes (k : KSrc) (h h' : Heap) (v : Value) (P cK PK C N dsc f0 f1 f2 f3 f4 f5 cc : Addr) (pk : Option (Addr × Addr)) (pm : Value) : Prop where
  keep : ∀ b o, b ≠ P → b ≠ PK → h.get? b = some o → h'.get? b = some o
  grown : Grown h h' P
  code : KCode h' P k.pos "cmp_to_key.<locals>.K" k.qK (some (cK, PK))
  pkn : pk = none → h.get? PK = none
  pks : ∀ x, pk = some x → x = (cK, PK)
  fr : ∀ a ∈ [C, N, dsc, f0, f1, f2, f3, f4, f5, cc], h.get? a = none
  cls : KCls h' C N dsc f0 f1 f2 f3 f4 f5 pm (mdOf k.stI []) (mdOf k.stLt (mc1 cc)) (mdOf k.stGt (mc1 cc)) (mdOf k.stEq (mc1 cc)) (mdOf k.stLe (mc1 cc)) (mdOf k.stGe (mc1 cc))
  cell : h'.IsCell cc (some v)

theorem kf_but {h h' : Heap} {f L : Addr} {name : Str} {x : MD} {pm : Value} {m : Str → Option Value} (y : KF h f name x pm) (sb : Heap.SameBut L h h') (hf : f ≠ L) (hL : h.Ns L m) : KF h' f name x pm := by
  obtain ⟨c', ctv, doc, a, b⟩ := y
  refine ⟨c', ctv, doc, sb.extBut _ _ hf a, codeRec_extBut b sb.extBut fun z => ?_⟩
  obtain ⟨c₂, o, vs, t, e, g, d, _⟩ := b
  cases e
  obtain ⟨o', es, ep, e', d', _⟩ := hL
  rw [z, e'] at g; cases g
  rw [d] at d'; cases d'

theorem cmp_call {B : Base} {A : Around} {n : Nat} {s : Shared} {a : Addr} {fd : FuncData} {st : Stmt} {k : KSrc} {ar : Arg} {pr pr' : Pos} {v v0 : Value} {c P : Addr} {pk : Option (Addr × Addr)} {R : Result → Shared → Prop}
    (rm : Room A (n + 1)) (start : Ext B.T B.h₁ s.heap) (fn : FnIn s.heap a fd) (isd : IsDef fd st) (cs : CmpSt st k ar pr pr') (ko : k.Ok) (hqn : fd.qualname = "cmp_to_key") (hcode : fd.code = .ref c) (wd : Wd s.heap B.mg B.mb c P v0) (kc : KCode s.heap P k.pos "cmp_to_key.<locals>.K" k.qK pk)
    (hR : ∀ cK PK C N dsc f0 f1 f2 f3 f4 f5 cc s', CmpRes k s.heap s'.heap v P cK PK C N dsc f0 f1 f2 f3 f4 f5 cc pk ((B.mg "__name__").getD .none) → s'.gens = s.gens → s'.os = s.os → R (.ok (.ret (.ref C))) s') :
    codeAny (model B.prog B.w) A (.call (.ref a) ⟨[v], []⟩) R s := by
  have hob : GlobIs B "object" (.type "object") := .inr ⟨wd.go, wd.bo⟩
  have hnm : fd.scope.names = cmpNames := by rw [isd.scope]; exact cs.names
  have hbind : bindArgs fd ⟨[v], []⟩ = pure [(Str.ofString "mycmp", v)] := by
    have := bind_plain (fd := fd) (as := [ar]) (vs := [v]) (isd.params.trans cs.args) isd.defaults rfl (List.nodup_cons.mpr ⟨List.not_mem_nil, List.nodup_nil⟩)
    rw [this, List.map_cons, cs.arg]; rfl
  refine call_fn2 (T := []) (W := []) (ds := [(true, .val v)]) (ρ₁ := [(Str.ofString "mycmp", .val true (.val v)), (Str.ofString "K", .un), (Str.ofString "object", .gl (.type "object"))]) rm (fun _ h => nomatch h) start fn (isd.body.trans (by rw [cs.body])) hbind (isd.closure ▸ CloOk.nil)
    (by rw [hnm]; exact .cell (.loc (.glob hob .nil))) (.val (.here rfl) .nil) (.val (.val v) .nil) (fun _ h => nomatch h) fun env s' F ok z1 z2 z3 z4 => ?_
  have kE := ok.ok.ext.ext.strict
  have kinds : ∀ x, env.kindOf x = List.lookup x cmpNames := fun x => by unfold Env.kindOf; rw [z1, hnm]
  have kM : env.kindOf "mycmp" = some .cell := by rw [kinds]; decide +kernel
  have kK : env.kindOf "K" = some .local := by rw [kinds]; decide +kernel
  have kO : env.kindOf "object" = some .globalImplicit := by rw [kinds]; decide +kernel
  obtain ⟨cc, hcc, hcell, hfr⟩ : ∃ cc, env.cells.lookup ("mycmp" : Str) = some cc ∧ s'.heap.IsCell cc (some v) ∧ s.heap.get? cc = none := by
    rcases ok.ok.ent (Str.ofString "mycmp", .val true (.val v)) (.head _) with ⟨_, e, _⟩ | ⟨⟨ov, h1, h2⟩, h3⟩
    · cases e
    rcases h1 with ⟨e, _⟩ | ⟨_, cc, e1, e2⟩
    · have e : env.kindOf "mycmp" = some .local := e
      rw [kM] at e; cases e
    obtain ⟨v', rfl, r⟩ := h2
    cases r
    refine ⟨cc, e1, e2, ?_⟩
    rcases (h3 rfl).2.2 cc kM e1 with e | e
    · exact e
    · cases e
  obtain ⟨ml, hml⟩ : ∃ ml, s'.heap.Ns env.locals ml := by
    rcases ok.ok.ent (Str.ofString "K", .un) (.tail _ (.head _)) with ⟨_, e, _⟩ | ⟨⟨ov, h1, h2⟩, h3⟩
    · cases e
    rcases h1 with ⟨_, m, e, _⟩ | ⟨e, _⟩
    · exact ⟨m, e⟩
    · have e : env.kindOf "K" = some .cell ∨ env.kindOf "K" = some .free := e
      rw [kK] at e; rcases e with e | e <;> cases e
  have frL : s.heap.get? env.locals = none := by rw [z4]; exact get_size _
  have lP : env.locals ≠ P := fun z => by obtain ⟨ps, e, _⟩ := kc; rw [← z, frL] at e; cases e
  have wd' := wd.keep kE
  have ce : CmpEnv env s'.heap k c P cc pk B.mg B.mb ml v0 :=
    { kind := F.kind, glob := F.globals, bi := F.builtins, code := z2.trans hcode, qual := by rw [z3, hqn]; kernel_rfl, kK := kK, kO := kO, cell := hcc, loc := hml, hd := wd'.hd, kc := kc.keep kE, g := wd'.g, b := wd'.b, ba := wd'.ba, go := wd.go, bo := wd.bo, bb := wd.bb, gn := wd.gn, v0 := wd.v0, sm := wd'.sm, lim := wd'.lim, op := wd'.op, gP := wd.gP, sP := wd.sP, lP := lP,
      lPK := fun x e z => by
        subst e
        obtain ⟨ps, _, _, _, _, _, ⟨ps', e', _⟩, _⟩ := kc
        rw [← z, frL] at e'; cases e' }
  obtain ⟨h0, g0, d0, t0, os0⟩ := s'
  refine cmp_body ko ce (by have := F.dep; show _ < _; exact Nat.lt_of_le_of_lt (Nat.le_add_right _ _) this) fun cK PK C N dsc f0 f1 f2 f3 f4 f5 h1 h2 t2 km sb => ?_
  have nL : ∀ a, h0.get? a = none → a ≠ env.locals := fun a e z => by obtain ⟨o, _, _, e', _⟩ := hml; rw [z] at e; have e' : h0.get? env.locals = some o := e'; rw [e] at e'; cases e'
  have fr' : ∀ a, h0.get? a = none → s.heap.get? a = none := fun a e => by
    cases q : s.heap.get? a with
    | none => rfl
    | some o => have := kE _ _ q; have this : h0.get? a = some o := this; rw [this] at e; cases e
  have lPK : env.locals ≠ PK := fun z => by
    cases hpk : pk with
    | none => exact nL PK (km.pkn hpk) z.symm
    | some x => have e := km.pks x hpk; exact ce.lPK x hpk (by rw [e]; exact z)
  have loc1 : h1.Ns env.locals ml := by
    obtain ⟨o, es, ep, e, r⟩ := id hml
    exact ⟨o, es, ep, km.keep _ _ lP lPK e, r⟩
  have nPL := fun z : P = env.locals => lP z.symm
  have keep2 : ∀ b o, b ≠ P → b ≠ PK → s.heap.get? b = some o → h2.get? b = some o := fun b o e1 e2 e => sb.extBut _ _ (fun z => by rw [z, frL] at e; cases e) (km.keep _ _ e1 e2 (kE _ _ e))
  have mem := km.fr
  have cls := km.k
  refine hR cK PK C N dsc f0 f1 f2 f3 f4 f5 cc ⟨h2, g0, d0, t2, os0⟩ ⟨keep2, ?_, ?_, fun z => fr' _ (km.pkn z), km.pks, ?_, ?_, ?_⟩ ok.ok.ext.gens ok.ok.ext.os
  · obtain ⟨ps, more, e1, e2⟩ := km.grown
    obtain ⟨ps', e', _⟩ := id kc
    have q : h0.get? P = some (tabObj ps') := kE _ _ e'
    rw [e1] at q; cases q
    exact ⟨ps, more, e', sb.extBut _ _ nPL e2⟩
  · obtain ⟨ps, e1, e2, e3, e4, e5, e6, e7, e8, e9⟩ := km.code
    obtain ⟨oL, esL, epL, eL, dL, _⟩ := id loc1
    have cL : cK ≠ env.locals := fun z => by
      obtain ⟨c₂, o, vs, t, e, g, d, _⟩ := e4
      cases e
      rw [z, eL] at g; cases g
      rw [d] at dL; cases dL
    exact ⟨ps, sb.extBut _ _ nPL e1, e2, e3, codeRec_extBut e4 sb.extBut cL, codeHd_but e5 sb.extBut cL, tabQ_but e6 sb.extBut lPK.symm eL dL, e7, e8, e9⟩
  · intro a ha
    by_cases z : a = cc
    · rw [z]; exact hfr
    · refine fr' a (mem a ?_)
      simp only [List.mem_cons, List.not_mem_nil, or_false] at ha ⊢
      rcases ha with h | h | h | h | h | h | h | h | h | h <;> first | exact absurd h z | simp [h]
  · have nn : ∀ a ∈ [C, N, dsc, f0, f1, f2, f3, f4, f5], a ≠ env.locals := fun a ha => nL a (mem a ha)
    obtain ⟨⟨k0, k2, k3, e1⟩, ⟨v0, qual, sm, tq, tf, tm, fl, sl, st', e2⟩, ⟨tk, e3⟩, i, lt, gt, eq, le, ge⟩ := cls
    exact ⟨⟨k0, k2, k3, sb.extBut _ _ (nn C (by simp)) e1⟩, ⟨v0, qual, sm, tq, tf, tm, fl, sl, st', e2.extBut sb.extBut (nn N (by simp))⟩, ⟨tk, sb.extBut _ _ (nn dsc (by simp)) e3⟩,
      kf_but i sb (nn f0 (by simp)) loc1, kf_but lt sb (nn f1 (by simp)) loc1, kf_but gt sb (nn f2 (by simp)) loc1, kf_but eq sb (nn f3 (by simp)) loc1, kf_but le sb (nn f4 (by simp)) loc1, kf_but ge sb (nn f5 (by simp)) loc1⟩
  · obtain ⟨o, e, dd⟩ := hcell
    have cL : cc ≠ env.locals := fun z => by
      obtain ⟨oL, esL, epL, eL, dL, _⟩ := id hml
      rw [z, eL] at e; cases e
      rw [dL] at dd; cases dd
    have cP : cc ≠ P := fun z => by obtain ⟨ps, e', _⟩ := kc; rw [← z, hfr] at e'; cases e'
    have cPK : cc ≠ PK := fun z => by
      cases hpk : pk with
      | none => have := km.pkn hpk; have e : h0.get? cc = some o := e; rw [z, this] at e; cases e
      | some x =>
        have e' := km.pks x hpk
        subst hpk
        subst e'
        obtain ⟨ps, _, _, _, _, _, ⟨ps', e'', _⟩, _⟩ := kc
        rw [← z, hfr] at e''; cases e''
    exact ⟨o, sb.extBut _ _ cL (km.keep _ _ cP cPK e), dd⟩
end Mine


open PySem PySem.W PyProof.Rows PySem.W.X
set_option maxHeartbeats 4000000
set_option pp.deepTerms false
set_option pp.deepTerms.threshold 3

namespace Mine
open PySem PySem.Calls PyProof.Rows
/-- no code table -/
noncomputable def NoTab (o : Obj) : Prop := ∀ ps, TriplesOk ps.toList → o ≠ tabObj ps
/-- all but code tables kept -/
noncomputable def TKeep (h h' : Heap) : Prop := ∀ b o, h.get? b = some o → NoTab o → h'.get? b = some o
theorem TKeep.trans {h h' h'' : Heap} (x : TKeep h h') (y : TKeep h' h'') : TKeep h h'' := fun b o e n => y b o (x b o e n) n
theorem TKeep.of {h h' : Heap} (k : ∀ b o, h.get? b = some o → h'.get? b = some o) : TKeep h h' := fun b o e _ => k b o e
theorem NoTab.data {o : Obj} (hd : ∀ vs, o.data ≠ .fields vs) : NoTab o := fun ps _ z => hd ps (by rw [z])
theorem NoTab.cls {o : Obj} (hc : o.cls ≠ .none) : NoTab o := fun ps _ z => hc (by rw [z])
theorem NoTab.str {o : Obj} {vs : Array Value} {q : Str} {t : Tok} (hd : o.data = .fields vs) (h1 : vs[1]? = some (.str q t)) : NoTab o := fun ps ht z => by
  subst z
  cases hd
  rw [← Array.getElem?_toList] at h1
  revert h1 ht
  cases vs.toList with
  | nil => intro h _; cases h
  | cons a l =>
    cases l with
    | nil => intro h _; cases h
    | cons b l =>
      intro h ht
      have h : some b = some (.str q t) := h
      cases h
      cases a <;> exact ht.elim
theorem TKeep.codeRec {h h' : Heap} (k : TKeep h h') {cd : Value} {q : Str} (x : h.CodeRec cd q) : h'.CodeRec cd q :=
  let ⟨c, o, vs, t, e, g, d, r⟩ := x; ⟨c, o, vs, t, e, k _ _ g (.str d r), d, r⟩
theorem TKeep.ns {h h' : Heap} (k : TKeep h h') {a : Addr} {m : Str → Option Value} (x : h.Ns a m) : h'.Ns a m :=
  let ⟨o, es, ep, e, d, r⟩ := x; ⟨o, es, ep, k _ _ e (.data fun vs z => by rw [d] at z; cases z), d, r⟩
theorem TKeep.cell {h h' : Heap} (k : TKeep h h') {a : Addr} {v : Option Value} (x : h.IsCell a v) : h'.IsCell a v :=
  let ⟨o, e, d⟩ := x; ⟨o, k _ _ e (.data fun vs z => by rw [d] at z; cases z), d⟩
theorem TKeep.rep {h h' : Heap} (k : TKeep h h') {v : Value} {d : D} (x : Rep [] h v d) : Rep [] h' v d :=
  x.move fun a o _ e q => ⟨k _ _ e (.data fun vs z => by rcases q with ⟨xs, n, q⟩ | q <;> rw [z] at q <;> cases q), List.not_mem_nil⟩
theorem TKeep.lim {h h' : Heap} (k : TKeep h h') (x : h.NoLimit) : h'.NoLimit := let ⟨mc, n, e⟩ := x; ⟨mc, k.ns n, e⟩
theorem TKeep.codeHd {h h' : Heap} (k : TKeep h h') {c P : Addr} (x : CodeHd h c P) : CodeHd h' c P :=
  let ⟨o, vs, file, tf, flags, tg, inF, text, tt, e, ec, r⟩ := x; ⟨o, vs, file, tf, flags, tg, inF, text, tt, k _ _ e (.cls (by rw [ec]; intro z; cases z)), ec, r⟩
theorem TKeep.fnIn {h h' : Heap} (k : TKeep h h') {a : Addr} {fd : FuncData} (x : FnIn h a fd) : FnIn h' a fd :=
  { x with obj := (let ⟨o, e, d⟩ := x.obj; ⟨o, k _ _ e (.data fun vs z => by rw [d] at z; cases z), d⟩), code := k.codeRec x.code }
theorem CmpRes.tk {k : KSrc} {h h' : Heap} {v : Value} {P cK PK C N dsc f0 f1 f2 f3 f4 f5 cc : Addr} {pk : Option (Addr × Addr)} {pm : Value} {qual : Str} {qK : Nat → Nat → Str} {pos : Pos} (x : CmpRes k h h' v P cK PK C N dsc f0 f1 f2 f3 f4 f5 cc pk pm)
    (kc : KCode h P pos qual qK pk) : TKeep h h' := fun b o e n => by
  obtain ⟨ps, eP, tP, r⟩ := kc
  refine x.keep b o (fun z => ?_) (fun z => ?_) e
  · rw [z, eP] at e; cases e; exact n ps tP rfl
  · cases hp : pk with
    | none => have := x.pkn hp; rw [z, this] at e; cases e
    | some y =>
      have q := x.pks y hp
      subst hp
      subst q
      obtain ⟨_, _, _, ⟨ps', e', t', _⟩, _⟩ := r
      rw [z, e'] at e; cases e
      exact n ps' t' rfl

/-- a lambda, as it was made -/
noncomputable def LamAt (h : Heap) (f : Addr) (qual : Str) (params : Arguments) (body : Expr) (scope : Scope) (clos : List (Str × Addr)) : Prop :=
  ∃ pm c' ctv, h.get? f = some (kla_obj "<lambda>" qual params body scope clos pm c' ctv) ∧ h.CodeRec (.ref c') qual
theorem TKeep.lam {h h' : Heap} (k : TKeep h h') {f : Addr} {qual : Str} {params : Arguments} {body : Expr} {scope : Scope} {clos : List (Str × Addr)} (x : LamAt h f qual params body scope clos) : LamAt h' f qual params body scope clos :=
  let ⟨pm, c', ctv, a, b⟩ := x; ⟨pm, c', ctv, k _ _ a (.cls (by intro z; cases z)), k.codeRec b⟩
/-- a code table and the places that it may know -/
noncomputable def LTab (h : Heap) (P : Addr) (used : List (Nat × Nat)) : Prop := ∃ ps, h.get? P = some (tabObj ps) ∧ TriplesOk ps.toList ∧ ∀ pos : Pos, (pos.line, pos.col) ∉ used → codeAmong pos ps.toList = none

section
variable {M : Model} {A : Around} {E : Value → Shared → Prop} {h : Heap} {g : Array GenState} {d : Drawn} {t : Nat} {os : OsState}
theorem lam_eval {env : Env} {params : Arguments} {body : Expr} {scope : Scope} {pos : Pos} {c P : Addr} {used : List (Nat × Nat)} {mg : Str → Option Value} {clos : List (Str × Addr)} {Q : Value → Shared → Prop}
    (hdef : defaultsOf params env = ([], [])) (hcl : closureFor scope env = pure clos) (hge : env.globals = mainGlobals) (hg : h.Ns mainGlobals mg) (hcode : env.code = .ref c) (C : CodeHd h c P) (T : LTab h P used) (hu : (pos.line, pos.col) ∉ used) (hgP : mainGlobals ≠ P) (hb : h.BuiltinsAt mg P)
    (hq : ∀ f h' t', TKeep h h' → Heap.ExtBut P h h' → Grown h h' P → h.get? f = none → LamAt h' f (env.qual ++ "<lambda>") params body scope clos → LTab h' P ((pos.line, pos.col) :: used) → Q (.ref f) ⟨h', g, d, t', os⟩) :
    wpAny M A (eval (.Lambda params body scope pos) env) Q E ⟨h, g, d, t, os⟩ := by
  obtain ⟨ps, hP, ht, hnf⟩ := T
  refine kla_eval hdef (kla_makeFunction (s := ⟨h, g, d, t, os⟩) hcl hge hg hcode C hP ht (hnf _ hu) hgP hb fun c' ctv h1 tk x1 hge1 hlt hrec htb => ?_)
  have up : ∀ (o' : Obj) b o, h1.get? b = some o → (h1.push o').get? b = some o := fun o' b o e => Heap.get?_push_of_some _ e
  refine hq _ _ tk (fun b o e n => up _ _ _ (x1 _ _ (fun z => by rw [z, hP] at e; cases e; exact n ps ht rfl) e)) (fun b o hb e => up _ _ _ (x1 _ _ hb e)) ⟨ps, _, hP, up _ _ _ htb⟩ ?_ ⟨_, c', ctv, Heap.get?_push_size _ rfl, hrec.push _⟩ ⟨_, up _ _ _ htb, ?_, fun pos' hn => ?_⟩
  · cases q : h.get? h1.objs.size with
    | none => rfl
    | some o => exact absurd (Nat.lt_of_lt_of_le (Heap.lt_size q) (Nat.le_of_lt (Nat.lt_of_le_of_lt hge1 hlt))) (Nat.lt_irrefl _)
  · have hl : (ps ++ #[rawInt pos.line, rawInt pos.col, Value.ref c']).toList = ps.toList ++ [rawInt pos.line, rawInt pos.col, .ref c'] := by simp
    rw [hl]; exact TriplesOk_snoc _ _ _ _ ht
  · have hl : (ps ++ #[rawInt pos.line, rawInt pos.col, Value.ref c']).toList = ps.toList ++ [rawInt pos.line, rawInt pos.col, .ref c'] := by simp
    rw [List.mem_cons, not_or] at hn
    rw [hl, codeAmong_more _ _ _ ht, hnf pos' hn.2]
    dsimp only
    rw [if_neg]
    intro z
    simp only [Bool.and_eq_true, beq_iff_eq] at z
    exact hn.1 (by rw [z.1, z.2])
end
end Mine


open PySem PySem.W PyProof.Rows PySem.W.X
set_option maxHeartbeats 4000000
set_option pp.deepTerms false
set_option pp.deepTerms.threshold 3

namespace Mine
open PySem PySem.Calls PyProof.Rows Builtin Builtin.ObjectAttr Builtin.Getset_descriptor
section
variable {prog : Program} {w : World} {M : Model} {A : Around} {E : Value → Shared → Prop} {h : Heap} {s : Shared} {C N dsc f0 f1 f2 f3 f4 f5 x : Addr} {pm v : Value} {x0 x1 x2 x3 x4 x5 : MD} {name : Str} {r y : Option Value}
noncomputable def orY : Option Value → Option Value → Option Value
  | some v, _ => some v
  | none, y => y
theorem kl (k : KCls h C N dsc f0 f1 f2 f3 f4 f5 pm x0 x1 x2 x3 x4 x5) (hB : classOwn (.type "object") name = pure y)
    (e : ∀ v0 qual sm tq tf tm fl sl st, km7 (kMap v0 qual sm tq tf tm fl sl f0 f1 f2 f3 f4 f5 st) dsc name = r) : Looks M h (typeLookup (.ref C) name) (orY r y) := by
  intro A Q E s kk q
  obtain ⟨k0, k2, k3, hC⟩ := k.cls
  obtain ⟨v0, qual, sm, tq, tf, tm, fl, sl, st, hN⟩ := k.ns
  obtain ⟨hh, g, d, t, os⟩ := s
  refine own_lookup (kk _ _ hC) rfl rfl (hN.keeps kk) hB ?_
  rw [e]
  cases r <;> exact q
theorem kl_ga (k : KCls h C N dsc f0 f1 f2 f3 f4 f5 pm x0 x1 x2 x3 x4 x5) : Looks M h (typeLookup (.ref C) "__getattribute__") (some (.builtin "object.__getattribute__")) := kl (r := none) (y := some (.builtin "object.__getattribute__")) k (by kernel_rfl) (by intros; kernel_rfl)
theorem kl_gt (k : KCls h C N dsc f0 f1 f2 f3 f4 f5 pm x0 x1 x2 x3 x4 x5) : Looks M h (typeLookup (.ref C) "__getattr__") none := kl (r := none) (y := none) k (by kernel_rfl) (by intros; kernel_rfl)
theorem kl_sa (k : KCls h C N dsc f0 f1 f2 f3 f4 f5 pm x0 x1 x2 x3 x4 x5) : Looks M h (typeLookup (.ref C) "__setattr__") (some (.builtin "object.__setattr__")) := kl (r := none) (y := some (.builtin "object.__setattr__")) k (by kernel_rfl) (by intros; kernel_rfl)
theorem kl_obj (k : KCls h C N dsc f0 f1 f2 f3 f4 f5 pm x0 x1 x2 x3 x4 x5) : Looks M h (typeLookup (.ref C) "obj") (some (.ref dsc)) := kl (r := some (.ref dsc)) (y := none) k (by kernel_rfl) (by intros; kernel_rfl)
theorem kl_init (k : KCls h C N dsc f0 f1 f2 f3 f4 f5 pm x0 x1 x2 x3 x4 x5) : Looks M h (typeLookup (.ref C) "__init__") (some (.ref f0)) := kl (r := some (.ref f0)) (y := some (.builtin "object.__init__")) k (by kernel_rfl) (by intros; kernel_rfl)
theorem kl_type (kx : KeyAt h x C v) : Looks M h (typeOf (.ref x)) (.ref C) := by
  obtain ⟨o, e, c, _⟩ := kx
  exact c ▸ (Looks.ld e).andThen .now
theorem kl_dtype (k : KCls h C N dsc f0 f1 f2 f3 f4 f5 pm x0 x1 x2 x3 x4 x5) : Looks M h (typeOf (.ref dsc)) (.type "member_descriptor") := by
  obtain ⟨tk, e⟩ := k.dsc
  exact (Looks.ld e).andThen .now
theorem md_get : typeLookup (.type "member_descriptor") "__get__" = pure (some (.builtin "member_descriptor.__get__")) := by kernel_rfl
theorem md_set : typeLookup (.type "member_descriptor") "__set__" = pure (some (.builtin "member_descriptor.__set__")) := by kernel_rfl
theorem kl_cls (k : KCls h C N dsc f0 f1 f2 f3 f4 f5 pm x0 x1 x2 x3 x4 x5) : ∃ cd, Looks M h (classData C) cd ∧ cd.slotNames = [Str.ofString "obj"] ∧ cd.mro = [.ref C, .type "object"] := by
  obtain ⟨k0, k2, k3, hC⟩ := k.cls
  exact ⟨_, (Looks.ld (part := none) hC).andThen .now, rfl, rfl⟩
theorem kl_sub (k : KCls h C N dsc f0 f1 f2 f3 f4 f5 pm x0 x1 x2 x3 x4 x5) {b : Value} : Looks M h (isSubtype (.ref C) b) ([Value.ref C, .type "object"].contains b) := by
  obtain ⟨cd, L, _, e⟩ := kl_cls (M := M) k
  intro A Q E s kk q
  unfold isSubtype mroOf
  refine wpAny_bind (wpAny_bind (L A _ E s kk (wpAny_pure ?_)))
  rw [e]
  exact wpAny_pure q
theorem kl_dspec (k : KCls h C N dsc f0 f1 f2 f3 f4 f5 pm x0 x1 x2 x3 x4 x5) {name : Str} {y : Option Value} (hy : typeLookup (.type "member_descriptor") name = pure y) : Looks M h (specialOf (.ref dsc) name) y := (kl_dtype k).andThen (Looks.of_pure hy)
theorem kl_takes (k : KCls h C N dsc f0 f1 f2 f3 f4 f5 pm x0 x1 x2 x3 x4 x5) : Looks M h (takesStores (.ref dsc)) true := (kl_dspec k md_set).andThen .now
theorem kl_find (k : KCls h C N dsc f0 f1 f2 f3 f4 f5 pm x0 x1 x2 x3 x4 x5) : Looks M h (find (.ref x) (.ref C) "obj") (.bind (.builtin "member_descriptor.__get__") (.ref dsc)) :=
  (kl_obj k).andThen ((show Looks M h (getOf (some (.ref dsc))) (some (.builtin "member_descriptor.__get__")) from kl_dspec k md_get).andThen
    ((show Looks M h (dataDescriptor? (some (.ref dsc)) (some (.builtin "member_descriptor.__get__"))) (some (.builtin "member_descriptor.__get__", .ref dsc)) from (kl_takes k).andThen .now).andThen (Looks.tag .now)))

theorem slot_read {R : Result → Shared → Prop} {tp : Value} (k : KCls s.heap C N dsc f0 f1 f2 f3 f4 f5 pm x0 x1 x2 x3 x4 x5) (kx : KeyAt s.heap x C v) (hR : R (.ok (.ret v)) s) :
    codeAny (model prog w) A (.call (.builtin "member_descriptor.__get__") ⟨[.ref dsc, .ref x, tp], []⟩) R s := by
  obtain ⟨tk, ho⟩ := k.dsc
  obtain ⟨cd, Lc, esl, emro⟩ := kl_cls (M := model prog w) k
  obtain ⟨hh, g, dr, t, os⟩ := s
  have L0 := kl_type (M := model prog w) kx
  have L1 : Looks (model prog w) hh (isSubtype (.ref C) (.ref C)) true := by have := kl_sub (M := model prog w) k (b := .ref C); simpa using this
  have L2 : Looks (model prog w) hh (Slots.slotNamesOf (.ref C)) [Str.ofString "obj"] := by rw [← esl]; exact Lc.andThen .now
  obtain ⟨o, hx, hc, hpl, hsl⟩ := kx
  have f0 := looks_field (M := model prog w) ho 0 (v := .str "obj" tk) rfl
  have f1 := looks_field (M := model prog w) ho 1 (v := .ref C) rfl
  have f2 := looks_field (M := model prog w) ho 2 (v := .builtin "proto.slot") rfl
  have f4 := looks_field (M := model prog w) ho 4 (v := rawInt 0) rfl
  refine codeAny_call_builtin KF.slot_mem.plain KF.entry_mem (KF.slot_mem.check _ _ _ _ _ _ _ _ ⟨_, ho, rfl⟩ (KF.args_mem _ _ _) ?_)
  unfold Builtin.«member_descriptor.__get__» descrGet
  rw [dga_obj]
  refine wpAny_bind (wpAny_pure ?_)
  unfold descrGetter descrCheckInstance descrNameAndClass isInstance
  repeat lk
  refine ⟨Code.quiet_builtin _ (by decide +kernel), codeAny_builtin KF.entry_slot ?_⟩
  unfold Builtin.«proto.slot» Slots.target
  repeat lk
  rw [hsl]
  exact wpAny_pure hR

theorem get_obj {expr : Bool} {Q : Value → Shared → Prop} (k : KCls s.heap C N dsc f0 f1 f2 f3 f4 f5 pm x0 x1 x2 x3 x4 x5) (kx : KeyAt s.heap x C v) (hh : handedIn v = true) (hq : Q v { s with toks := s.toks + 1 }) :
    wpAny (model prog w) A (getAttr (.ref x) "obj" expr) Q E s := by
  obtain ⟨hh', gg, d, t, os⟩ := s
  have L0 := kl_type (M := model prog w) kx
  have L1 := kl_ga (M := model prog w) k
  have L2 := kl_gt (M := model prog w) k
  have L3 := kl_find (M := model prog w) (x := x) k
  unfold getAttr getAttrBy
  refine wpAny_bind (wpAny_mkText (wpAny_holding (wpAny_bind (L0.at (wpAny_bind (L1.at ?_))))))
  show wpAny _ _ (getAttrEveryday _ _ _) _ _ _
  refine wpAny_bind (wpAny_onRaise (wpAny_runValue (codeAny_builtin F.plainObj_entry_getattr_hooked ?_)))
  refine wpAny_bind (wpAny_pure (wpAny_bind (L0.at (wpAny_bind (L3.at (wpAny_bind (L2.at ?_)))))))
  show wpAny _ _ (holding [.ref dsc] (call (.builtin "member_descriptor.__get__") [.ref dsc, .ref x, .ref C]) >>= ret) _ _ _
  refine wpAny_bind (wpAny_holding (wpAny_call (slot_read (s := ⟨hh', gg, d, t + 1, os⟩) k kx (wpAny_pure ?_))))
  exact handed_on hh hq
end
end Mine


open PySem PySem.W PyProof.Rows PySem.W.X
set_option maxHeartbeats 4000000
set_option pp.deepTerms false
set_option pp.deepTerms.threshold 3

namespace Mine
open PySem PySem.Calls PyProof.Rows Builtin Builtin.ObjectAttr Builtin.Getset_descriptor
section
variable {prog : Program} {w : World} {A : Around} {E : Value → Shared → Prop} {h : Heap} {s : Shared} {C N dsc f0 f1 f2 f3 f4 f5 x : Addr} {pm v : Value} {x0 x1 x2 x3 x4 x5 : MD}
theorem kl_makes {M : Model} (k : KCls h C N dsc f0 f1 f2 f3 f4 f5 pm x0 x1 x2 x3 x4 x5) : Makes M h C := by
  obtain ⟨k0, k2, k3, hC⟩ := k.cls
  have hC' : h.get? C = some (excClassObj "K" "cmp_to_key.<locals>.K" C N [.type "object"] [.type "object"] false ["obj"] [] false none none k0 none k2 k3 (some (.bool false)) "object.__new__") := hC
  refine ⟨⟨_, _, _, _, hC, rfl, rfl, rfl⟩, ?_, ?_, ?_, ?_, ?_, ?_⟩
  · intro A Q E s kk q; obtain ⟨hh, g, d, t, os⟩ := s; exact wpAny_madeBy_exc (kk _ _ hC') q
  · intro A Q E s kk q; obtain ⟨hh, g, d, t, os⟩ := s; exact wpAny_staticBase_exc (kk _ _ hC') q
  · have := kl_sub (M := M) k (b := .ref C); simpa using this
  · have := kl_sub (M := M) k (b := .type "object"); simpa using this
  · exact ((Looks.ld hC).andThen .now : Looks M h (typeOf (.ref C)) (.type "type")).andThen (Looks.of_pure (by kernel_rfl))
  · exact ((Looks.ld hC).andThen .now : Looks M h (typeOf (.ref C)) (.type "type")).andThen (Looks.of_pure (by kernel_rfl))

theorem slot_write {ox : Obj} {R : Result → Shared → Prop} (k : KCls s.heap C N dsc f0 f1 f2 f3 f4 f5 pm x0 x1 x2 x3 x4 x5) (hx : s.heap.get? x = some ox) (hc : ox.cls = .ref C) (hsl : ox.slots = #[]) (hfr : ∀ sl, ({ ox with slots := sl } : Obj).isFreed = false)
    (hR : ∀ h', Heap.SameBut x s.heap h' → h'.get? x = some { ox with slots := #[some v] } → R (.ok (.ret .none)) { s with heap := h' }) :
    codeAny (model prog w) A (.call (.builtin "member_descriptor.__set__") ⟨[.ref dsc, .ref x, v], []⟩) R s := by
  obtain ⟨tk, ho⟩ := k.dsc
  obtain ⟨cd, Lc, esl, emro⟩ := kl_cls (M := model prog w) k
  obtain ⟨hh, g, dr, t, os⟩ := s
  have L0 : Looks (model prog w) hh (typeOf (.ref x)) (.ref C) := hc ▸ (Looks.ld hx).andThen .now
  have L1 : Looks (model prog w) hh (isSubtype (.ref C) (.ref C)) true := by have := kl_sub (M := model prog w) k (b := .ref C); simpa using this
  have L2 : Looks (model prog w) hh (Slots.slotNamesOf (.ref C)) [Str.ofString "obj"] := by rw [← esl]; exact Lc.andThen .now
  have f0 := looks_field (M := model prog w) ho 0 (v := .str "obj" tk) rfl
  have f1 := looks_field (M := model prog w) ho 1 (v := .ref C) rfl
  have f3 := looks_field (M := model prog w) ho 3 (v := .builtin "proto.slot#set") rfl
  have f4 := looks_field (M := model prog w) ho 4 (v := rawInt 0) rfl
  refine codeAny_call_builtin KF.slot_mset.plain KF.entry_mset (KF.slot_mset.check _ _ _ _ _ _ _ _ ⟨_, ho, rfl⟩ (KF.args_mset _ _ _) ?_)
  unfold Builtin.«member_descriptor.__set__» descrSet descrStoreThrough descrCheckInstance descrNameAndClass isInstance
  have f5 : Looks (model prog w) hh (descrItself (.ref dsc)) [.ref dsc] := ((Looks.ld (part := none) ho).andThen .now).andThen (Looks.of_pure (by kernel_rfl))
  repeat lk
  refine ⟨Code.quiet_builtin _ (by decide +kernel), codeAny_builtin KF.entry_slotset ?_⟩
  unfold Builtin.«proto.slot#set» Slots.target
  repeat lk
  obtain ⟨oc, od, odt, osl⟩ := ox
  dsimp only at hsl
  subst hsl
  refine wpAny_updatePart hx (wpAny_pure (hR _ (Heap.SameBut.update ..) ?_))
  refine (Heap.get?_update_self _ hx ?_).trans ?_
  · exact hfr _
  · rfl

theorem set_obj {ox : Obj} {Q : Unit → Shared → Prop} (k : KCls s.heap C N dsc f0 f1 f2 f3 f4 f5 pm x0 x1 x2 x3 x4 x5) (hx : s.heap.get? x = some ox) (hc : ox.cls = .ref C) (hsl : ox.slots = #[]) (hfr : ∀ sl, ({ ox with slots := sl } : Obj).isFreed = false)
    (hq : ∀ h', Heap.SameBut x s.heap h' → h'.get? x = some { ox with slots := #[some v] } → Q () { s with heap := h', toks := s.toks + 1 }) : wpAny (model prog w) A (setAttr (.ref x) "obj" v) Q E s := by
  have L0 : Looks (model prog w) s.heap (typeOf (.ref x)) (.ref C) := hc ▸ (Looks.ld hx).andThen .now
  have L1 := kl_sa (M := model prog w) k
  obtain ⟨cd, Lc, esl, emro⟩ := kl_cls (M := model prog w) k
  have SF := PySem.F.store_object
  have hm : Looks (model prog w) s.heap (mroOf (.ref C)) [.ref C, .type "object"] := by rw [← emro]; exact Lc.andThen .now
  have sub : Looks (model prog w) s.heap (isInstance (.ref x) (.type "object")) true := L0.andThen (by have := kl_sub (M := model prog w) k (b := .type "object"); simpa using this)
  refine wpAny_bind (wpAny_mkText (wpAny_bind (wpAny_bind (wpAny_bind (L0 _ _ _ _ (fun _ _ e => e) (L1 _ _ _ _ (fun _ _ e => e) (wpAny_holding ?_)))))))
  rw [PySem.F.store_object.slot.bind]
  refine wpAny_bind (wpAny_pure (wpAny_bind (wpAny_call ?_)))
  refine codeAny_call_builtin SF.slot.plain SF.entry (@check_slot (model prog w) _ _ { s with toks := s.toks + 1 } "object.__setattr__" "object" "__setattr__" (.ref x) [.str "obj" s.toks, v] [] _ SF.kind SF.split sub (SF.args (.ref x) (.str "obj" s.toks) v) ?_)
  show wpAny _ _ (Builtin.«object.__setattr__» ⟨[.ref x, .str "obj" s.toks, v], []⟩) _ _ _
  rw [osa_eq, refuse_eq]
  refine wpAny_bind (wpAny_bind (L0 _ _ _ _ (fun _ _ e => e) (wpAny_bind (hm _ _ _ _ (fun _ _ e => e) ?_))))
  rw [refuse_only _ (by rfl)]
  have LT : Looks (model prog w) s.heap (storeTaker? (some (.ref dsc))) (some (.ref dsc)) := (kl_takes k).andThen .now
  refine wpAny_pure (wpAny_bind (L0 _ _ _ _ (fun _ _ e => e) (wpAny_bind (kl_obj k _ _ _ _ (fun _ _ e => e) (wpAny_bind (LT _ _ _ _ (fun _ _ e => e) ?_))))))
  refine wpAny_bind (wpAny_rule (wpAny_bind (wpAny_holding (wpAny_bind (wpAny_bind (kl_dtype k _ _ _ _ (fun _ _ e => e) ((Looks.of_pure (h := s.heap) KF.slot_mset.lookup) _ _ _ _ (fun _ _ e => e) (wpAny_holding ?_))))))))
  rw [KF.slot_mset.bind]
  refine wpAny_bind (wpAny_pure (wpAny_bind (wpAny_call (slot_write (s := { s with toks := s.toks + 1 }) k hx hc hsl hfr fun h' sb e => ?_))))
  exact wpAny_pure (wpAny_pure (wpAny_pure (wpAny_pure (hq h' sb e))))
end
end Mine


open PySem PySem.W PyProof.Rows PySem.W.X
set_option maxHeartbeats 4000000
set_option pp.deepTerms false
set_option pp.deepTerms.threshold 3

namespace Mine
open PySem PySem.Calls PyProof.Rows Builtin Builtin.ObjectAttr Builtin.Getset_descriptor
/-- a method's text -/
structure MethOk (st : Stmt) (as : List Arg) : Prop where
  args : fArgs st = ⟨[], as, Option.none, [], [], Option.none, []⟩
  nda : (as.map (·.arg)).Nodup
  kind : (fScope st).kind = .function
  co : (fScope st).isCoroutine = false
  gen : (fScope st).isGenerator = false
  nd : ((fScope st).names.map (·.1)).Nodup
noncomputable abbrev methFd (name : Str) (st : Stmt) (clos : List (Str × Addr)) (doc pm : Value) (c' : Addr) (ctv : Value) : FuncData :=
  fnX name (kq name) (fArgs st) (fBody st) (fScope st) clos .none .none doc pm none (.ref c') ctv
theorem KF.fn {h : Heap} {f : Addr} {name : Str} {st : Stmt} {clos : List (Str × Addr)} {pm : Value} {as : List Arg} (x : KF h f name (mdOf st clos) pm) (m : MethOk st as) : ∃ doc c' ctv, FnIn h f (methFd name st clos doc pm c' ctv) := by
  obtain ⟨c', ctv, doc, e, r⟩ := x
  exact ⟨doc, c', ctv, ⟨⟨_, e, rfl⟩, r, rfl, rfl, m.kind, m.co, m.gen, m.nd⟩⟩
structure InitSt (st : Stmt) (a1 a2 : Arg) (p1 p2 p3 p4 : Pos) : Prop where
  m : MethOk st [a1, a2]
  n1 : a1.arg = "self"
  n2 : a2.arg = "obj"
  body : fBody st = [.Assign [.Attribute (.Name "self" p1) "obj" p2] (.Name "obj" p3) p4]
  names : (fScope st).names = [(Str.ofString "self", .local), (Str.ofString "obj", .local)]
theorem KCls.keep {h h' : Heap} {C N dsc f0 f1 f2 f3 f4 f5 : Addr} {pm : Value} {x0 x1 x2 x3 x4 x5 : MD} (k : KCls h C N dsc f0 f1 f2 f3 f4 f5 pm x0 x1 x2 x3 x4 x5) (kk : ∀ b o, h.get? b = some o → h'.get? b = some o) : KCls h' C N dsc f0 f1 f2 f3 f4 f5 pm x0 x1 x2 x3 x4 x5 :=
  ⟨let ⟨a, b, c, e⟩ := k.cls; ⟨a, b, c, kk _ _ e⟩, let ⟨a, b, c, d, e, f, g, i, j, n⟩ := k.ns; ⟨a, b, c, d, e, f, g, i, j, n.keeps kk⟩, let ⟨t, e⟩ := k.dsc; ⟨t, kk _ _ e⟩, k.i.keep kk, k.lt.keep kk, k.gt.keep kk, k.eq.keep kk, k.le.keep kk, k.ge.keep kk⟩
theorem room_tc {A : Around} {n : Nat} {C : Addr} {vs : List Value} (rm : Room A (n + 1)) : Room (A.under (.builtin "type.__call__" ⟨.ref C :: vs, []⟩)) n := by
  refine ⟨rm.hnd, ?_, ?_⟩
  · have := rm.dep
    show A.depth + 1 + n < _
    omega
  · have := rm.uni
    have e : (A.under (.builtin "type.__call__" ⟨.ref C :: vs, []⟩)).units ≤ A.units + 8 := by
      show A.units + (Code.builtin "type.__call__" ⟨.ref C :: vs, []⟩).cUnits ≤ A.units + 8
      exact Nat.add_le_add_left (by first | decide | exact (by decide : (1 : Nat) ≤ 8)) _
    omega

theorem make_key {B : Base} {A : Around} {n : Nat} {s : Shared} {C N dsc f0 f1 f2 f3 f4 f5 : Addr} {pm v : Value} {st : Stmt} {x1 x2 x3 x4 x5 : MD} {a1 a2 : Arg} {p1 p2 p3 p4 : Pos} {R : Result → Shared → Prop}
    (rm : Room A (n + 2)) (start : Ext B.T B.h₁ s.heap) (k : KCls s.heap C N dsc f0 f1 f2 f3 f4 f5 pm (mdOf st []) x1 x2 x3 x4 x5) (i : InitSt st a1 a2 p1 p2 p3 p4)
    (hR : ∀ x s', (∀ b o, s.heap.get? b = some o → s'.heap.get? b = some o) → s.heap.get? x = none → KeyAt s'.heap x C v → s'.gens = s.gens → s'.os = s.os → R (.ok (.ret (.ref x))) s') :
    codeAny (model B.prog B.w) A (.call (.ref C) ⟨[v], []⟩) R s := by
  obtain ⟨h, g, d, t, os⟩ := s
  obtain ⟨doc, c', ctv, fn⟩ := k.i.fn i.m
  have up : ∀ b o, h.get? b = some o → ((h.push emptyDict).push (instObj C h.objs.size)).get? b = some o := fun b o e => Heap.get?_push_of_some _ (Heap.get?_push_of_some _ e)
  have hb : ∀ self, Looks (model B.prog B.w) h (bindSpecial (.ref f0) self) (.ref f0, [self]) := fun self => by
    obtain ⟨o, e, _⟩ := fn.obj
    obtain ⟨c'', ctv', doc', e', _⟩ := k.i
    unfold bindSpecial
    exact ((Looks.ld e').andThen .now : Looks (model B.prog B.w) h (typeOf (.ref f0)) (.type "function")).andThen (Looks.of_pure (by kernel_rfl))
  refine make_core (kl_makes k) (kl_init k) hb (.inl rfl) ?_
  have hx : ((h.push emptyDict).push (instObj C h.objs.size)).get? (h.objs.size + 1) = some (instObj C h.objs.size) := by heap_get
  have frx : h.get? (h.objs.size + 1) = none := by
    cases q : h.get? (h.objs.size + 1) with
    | none => rfl
    | some o => exact absurd (Heap.lt_size q) (Nat.not_lt.mpr (Nat.le_succ _))
  have hbind : bindArgs (methFd "__init__" st [] doc pm c' ctv) ⟨[.ref (h.objs.size + 1), v], []⟩ = pure [(Str.ofString "self", .ref (h.objs.size + 1)), (Str.ofString "obj", v)] := by
    have := bind_plain (fd := methFd "__init__" st [] doc pm c' ctv) (as := [a1, a2]) (vs := [.ref (h.objs.size + 1), v]) i.m.args rfl rfl i.m.nda
    rw [this, List.map_cons, List.map_cons, i.n1, i.n2]; rfl
  refine call_fn (n := n) (T := []) (W := []) (ds := [(true, .val (.ref (h.objs.size + 1))), (true, .val v)]) (ρ₁ := [(Str.ofString "self", .val true (.val (.ref (h.objs.size + 1)))), (Str.ofString "obj", .val true (.val v))]) (room_tc rm) (fun _ h => nomatch h)
    (start.trans (.of_keep up)) (fn.keep up) (show FuncBody.stmts (fBody st) = _ from rfl) hbind CloOk.nil (by show LayOf B [] (fScope st).names _; rw [i.names]; exact .loc (.loc .nil)) (.val (.here rfl) (.val (.there (.here rfl)) .nil)) (.val (.val _) (.val (.val v) .nil)) (fun _ h => nomatch h) fun env s' F ok => ?_
  have kE := ok.ok.ext.ext.strict
  have k2 : ∀ b o, h.get? b = some o → s'.heap.get? b = some o := fun b o e => kE _ _ (up _ _ e)
  rw [i.body]
  refine wpAny_execs_cons (plainObj_wpAny_Assign_Attribute (wpAny_mono (ev_val (d := .val v) F (.tail _ (.head _)) (by decide +kernel) _ ok.ok) (fun v' s1 h1 => ?_) fun _ _ z => z.elim))
  have e1 : v' = v := by have r : Rep [] s1.heap v' (.val v) := h1.2; cases r; rfl
  subst e1
  refine wpAny_mono (ev_val (d := .val (.ref (h.objs.size + 1))) F (.head _) (by decide +kernel) _ (ok.ok.mono h1.1)) (fun v'' s2 h2 => ?_) fun _ _ z => z.elim
  have e2 : v'' = .ref (h.objs.size + 1) := by have r : Rep [] s2.heap v'' (.val (.ref (h.objs.size + 1))) := h2.2; cases r; rfl
  subst e2
  have k3 : ∀ b o, h.get? b = some o → s2.heap.get? b = some o := fun b o e => h2.1.ext.strict _ _ (h1.1.ext.strict _ _ (k2 _ _ e))
  have hx2 := h2.1.ext.strict _ _ (h1.1.ext.strict _ _ (kE _ _ hx))
  refine set_obj (k.keep k3) hx2 rfl rfl (fun sl => rfl) fun h' sb e => ?_
  refine wpAny_execs_nil ⟨rfl, ?_⟩
  refine hR _ _ (fun b o e' => sb.extBut _ _ (fun z => by rw [z, frx] at e'; cases e') (k3 _ _ e')) frx ⟨_, e, rfl, rfl, rfl⟩ ?_ ?_
  · exact h2.1.gens.trans (h1.1.gens.trans ok.ok.ext.gens)
  · exact h2.1.os.trans (h1.1.os.trans ok.ok.ext.os)
end Mine


open PySem PySem.W PyProof.Rows PySem.W.X
set_option maxHeartbeats 4000000
set_option pp.deepTerms false
set_option pp.deepTerms.threshold 3

namespace Mine
open PySem PySem.Calls PyProof.Rows Builtin Builtin.ObjectAttr Builtin.Getset_descriptor
/-- a class of keys -/
structure KC where
  C : Addr
  N : Addr
  dsc : Addr
  f0 : Addr
  f1 : Addr
  f2 : Addr
  f3 : Addr
  f4 : Addr
  f5 : Addr
  cc : Addr
  pm : Value
  v : Value
noncomputable def KC.In (c : KC) (k : KSrc) (h : Heap) : Prop :=
  KCls h c.C c.N c.dsc c.f0 c.f1 c.f2 c.f3 c.f4 c.f5 c.pm (mdOf k.stI []) (mdOf k.stLt (mc1 c.cc)) (mdOf k.stGt (mc1 c.cc)) (mdOf k.stEq (mc1 c.cc)) (mdOf k.stLe (mc1 c.cc)) (mdOf k.stGe (mc1 c.cc)) ∧ h.IsCell c.cc (some c.v)
/-- it stands in every heap from the base on -/
noncomputable def KIn (B : Base) (c : KC) (k : KSrc) : Prop := ∀ h, Ext B.T B.h₁ h → c.In k h

noncomputable def D.plainD : D → Bool
  | .val _ => false
  | _ => true
theorem rep_handed {W : List Addr} {h : Heap} {v : Value} {d : D} (r : Rep W h v d) (hd : d.plainD = true) : handedIn v = true := by
  cases r <;> first | rfl | cases hd
section
variable {X : Cx} {W : List Addr} {ρ : List (Str × Ent)} {c : KC} {k : KSrc}
theorem ev_obj {x : Str} {p1 p2 : Pos} {b : Bool} {d : D} (F : Fine X) (K : KIn X.B c k) (hm : (x, Ent.val b (.key c.C d)) ∈ ρ) (hd : d.plainD = true) (hx : okName x = true := by decide +kernel) : Ev X W ρ .s (.Attribute (.Name x p1) "obj" p2) d := fun s hs => by
  rw [arm_eval_Attribute]
  refine wpAny_bind ?_
  show wpAny _ _ (eval (.Name x p1) X.env) _ _ _
  refine wpAny_mono (ev_val F hm hx s hs) (fun v s1 h1 => wpAny_bind (wpAny_standAt (wpAny_bind (wpAny_holding ?_)))) fun _ _ z => z
  obtain ⟨k1, r⟩ := h1
  have r : Rep W s1.heap v (.key c.C d) := r
  cases r with
  | key kx hw rd =>
    refine get_obj ((K _ ((hs.mono k1).base F)).1) kx (rep_handed rd hd) (wpAny_bind (wpAny_pure (wpAny_pure ⟨k1.trans (sext_toks _ _), rd⟩)))

/-- a call of a value that a name holds -/
theorem ev_callv {g : Str} {p : Pos} {b : Bool} {f : Value} {es : List Expr} {ds : List D} {l : Lv} {d : D} {pos : Pos} (F : Fine X) (hf : (g, Ent.val b (.val f)) ∈ ρ) (ha : EvTs X W ρ es ds) (hc : CallV X W f ds l d) (hk : KeepOk X W f)
    (hst : ∀ env, (backTo pos (starEach es env)).any (·.1) = false := by intro _; rfl) (hg : okName g = true := by decide +kernel) : Ev X W ρ l (.Call (.Name g p) es [] pos) d := fun s hs => by
  show wpAny X.M X.A (eval (.Name g p) X.env >>= fun v => callWith pos v [] (backTo pos (starEach es X.env)) (backToKw pos (keywordEach [] X.env))) _ _ s
  refine wpAny_bind (wpAny_mono (ev_val F hf hg s hs) (fun v s₁ h₁ => ?_) fun _ _ x => x)
  have e : v = f := by
    have r : Rep W s₁.heap v (.val f) := h₁.2
    cases r with | val => rfl
  subst e
  exact wpAny_mono (callWith_V F (hs.mono h₁.1) ha hc hk (hst _)) (fun v s' h => ⟨h₁.1.trans h.1, h.2.back h₁.1⟩) fun _ _ x => x

/-- the class called -/
theorem callV_make {d : D} {n : Nat} {a1 a2 : Arg} {p1 p2 p3 p4 : Pos} (K : KIn X.B c k) (i : InitSt k.stI a1 a2 p1 p2 p3 p4) (hn : n + 2 ≤ X.n) (hd : d.kept = true) : CallV X W (.ref c.C) [d] .f (.key c.C d) := fun s ρ vs F hs hr => by
  obtain ⟨v, rfl, r⟩ := repTs_one hr
  have r' : Rep W s.heap v d := by cases d <;> first | exact r | cases hd
  refine wpAny_call (make_key (n := n) (F.room.less hn) (hs.base F) ((K _ (hs.base F)).1) i fun x s' kk fr kx g o => ?_)
  have hw : x ∉ W := fun z => by obtain ⟨o, e⟩ := hs.wal x z; rw [fr] at e; cases e
  exact ⟨⟨.of_keep kk, g, o⟩, .key kx hw (r'.keep kk), fun a e => by cases e; exact fr⟩
theorem keepOk_cls (K : KIn X.B c k) : KeepOk X W (.ref c.C) := fun s ρ F hs => by
  obtain ⟨k0, k2, k3, e⟩ := (K _ (hs.base F)).1.cls
  unfold keeperOf
  refine wpAny_bind (wpAny_load e ?_)
  exact wpAny_bind ((kl_makes (M := X.M) (K _ (hs.base F)).1).call _ _ _ _ (fun _ _ e => e) (wpAny_pure rfl))
end

/-- a comparing method's text -/
structure CmpM (st : Stmt) (op : CmpOp) (a1 a2 : Arg) (kk : Nat) (p1 p2 p3 p4 p5 p6 p7 p8 p9 : Pos) : Prop where
  m : MethOk st [a1, a2]
  n1 : a1.arg = "self"
  n2 : a2.arg = "other"
  body : fBody st = [.Return (some (.Compare (.Call (.Name "mycmp" p1) [.Attribute (.Name "self" p2) "obj" p3, .Attribute (.Name "other" p4) "obj" p5] [] p6) [op] [.Constant (.int 0) kk p7] p8)) p9]
  names : (fScope st).names = [(Str.ofString "self", .local), (Str.ofString "other", .local), (Str.ofString "mycmp", .free)]
theorem cloOk_mc1 {W : List Addr} {h : Heap} {cc : Addr} {v : Value} (x : h.IsCell cc (some v)) : CloOk W h (mc1 cc) [(Str.ofString "mycmp", .val true (.val v))] := by
  have one : ∀ y c, (mc1 cc).lookup y = some c → y = Str.ofString "mycmp" ∧ c = cc := fun y c e => by
    unfold mc1 at e
    rw [List.lookup_cons] at e
    cases q : y == Str.ofString "mycmp" with
    | true => rw [q] at e; cases e; exact ⟨by simpa using q, rfl⟩
    | false => rw [q] at e; cases e
  refine ⟨fun y z c e1 e2 => (one y c e1).1.trans (one z c e2).1.symm, fun y c e => ?_, fun y e hm _ => ?_⟩
  · obtain ⟨o, ho, _⟩ := x; rw [(one y c e).2]; exact ⟨o, ho⟩
  · rcases List.mem_cons.mp hm with e | e
    · cases e; exact ⟨cc, v, by unfold mc1; rw [List.lookup_cons_self], x, v, rfl, .val v⟩
    · cases e
section
variable {X : Cx} {W : List Addr} {c : KC} {k : KSrc}
theorem callV_cmp {f : Addr} {name : Str} {st : Stmt} {op : CmpOp} {a b : D} {r : Bool} {z : Int} {n : Nat} {a1 a2 : Arg} {kk : Nat} {p1 p2 p3 p4 p5 p6 p7 p8 p9 : Pos} (K : KIn X.B c k) (hn : n + 1 ≤ X.n) (hkf : ∀ h, c.In k h → KF h f name (mdOf st (mc1 c.cc)) c.pm) (m : CmpM st op a1 a2 kk p1 p2 p3 p4 p5 p6 p7 p8 p9)
    (ha : a.plainD = true) (hb : b.plainD = true) (hcmp : ∀ X' : Cx, X'.B = X.B → X'.n = n → CallV X' W c.v [a, b] .f (.int z)) (hkeep : ∀ X' : Cx, X'.B = X.B → KeepOk X' W c.v) (hop : ∀ X' : Cx, CmpV X' W op (.int z) (.int 0) r) (hm : ∀ e : Expr, behindInMarks op (.Constant (.int 0) kk p7) = false) :
    CallV X W (.ref f) [.key c.C a, .key c.C b] .f (.bool r) := fun s ρ vs F hs hr => by
  obtain ⟨v1, v2, rfl, r1, r2⟩ := repTs_two hr
  have KI := K _ (hs.base F)
  obtain ⟨doc, c', ctv, fn⟩ := (hkf _ KI).fn m.m
  have hbind : bindArgs (methFd name st (mc1 c.cc) doc c.pm c' ctv) ⟨[v1, v2], []⟩ = pure [(Str.ofString "self", v1), (Str.ofString "other", v2)] := by
    have := bind_plain (fd := methFd name st (mc1 c.cc) doc c.pm c' ctv) (as := [a1, a2]) (vs := [v1, v2]) m.m.args rfl rfl m.m.nda
    rw [this, List.map_cons, List.map_cons, m.n1, m.n2]; rfl
  refine wpAny_call (call_fn (n := n) (T := []) (ds := [(true, .key c.C a), (true, .key c.C b)]) (ρp := [(Str.ofString "mycmp", .val true (.val c.v))])
    (ρ₁ := [(Str.ofString "self", .val true (.key c.C a)), (Str.ofString "other", .val true (.key c.C b)), (Str.ofString "mycmp", .val false (.val c.v))]) (F.room.less hn) (fun _ h => nomatch h) (hs.base F) fn (show FuncBody.stmts (fBody st) = _ from rfl) hbind (cloOk_mc1 KI.2)
    (by show LayOf X.B _ (fScope st).names _; rw [m.names]; exact .loc (.loc (.free (.head _) rfl .nil))) (.val (.here rfl) (.val (.there (.here rfl)) .nil)) (.val r1 (.val r2 .nil)) hs.wal fun env s' F' ok => ?_)
  rw [m.body]
  have main := ret_f (X := ⟨X.B, X.A.deeper env, env, s, n, [], closable (fScope st).names⟩) (W := W) (ρ := [(Str.ofString "self", .val true (.key c.C a)), (Str.ofString "other", .val true (.key c.C b)), (Str.ofString "mycmp", .val false (.val c.v))]) (N := fun _ _ => False) (rest := []) (pos := p9)
    (ev_cmp (pos := p8) (op := op) F' (ev_callv (g := Str.ofString "mycmp") (b := false) (p := p1) (pos := p6) F' (.tail _ (.tail _ (.head _))) (evTs_cons (ev_obj (x := Str.ofString "self") (p1 := p2) (p2 := p3) (k := k) F' K (.head _) ha) (evTs_cons (ev_obj (x := Str.ofString "other") (p1 := p4) (p2 := p5) (k := k) F' K (.tail _ (.head _)) hb) evTs_nil)) (hcmp ⟨X.B, X.A.deeper env, env, s, n, [], closable (fScope st).names⟩ rfl rfl) (hkeep _ rfl)) (ev_int (k := kk) (pos := p7)) (hop _) (hm (.Constant .none 0 p7)))
  refine wpAny_mono (main [] s' ok) (fun fl s'' h => ?_) fun _ _ h => h.elim
  cases fl with
  | next => exact h.elim
  | ret v =>
    have h' : Ret ⟨X.B, X.A.deeper env, env, s, n, [], closable (fScope st).names⟩ W .f (.bool r) v s'' := h
    exact h'
  | _ => exact h.elim
end
end Mine


open PySem PySem.W PyProof.Rows PySem.W.X
set_option maxHeartbeats 4000000
set_option pp.deepTerms false
set_option pp.deepTerms.threshold 3

namespace Mine
open PySem PySem.Calls PyProof.Rows Builtin Builtin.ObjectAttr Builtin.Getset_descriptor
section
variable {X : Cx} {W : List Addr} {ρ : List (Str × Ent)} {c : KC} {k : KSrc}
theorem rep_key {W : List Addr} {h : Heap} {v : Value} {C : Addr} {d : D} (r : RepT W h v (.key C d)) : ∃ x u, v = .ref x ∧ KeyAt h x C u ∧ x ∉ W ∧ Rep W h u d := by
  have r : Rep W h v (.key C d) := r
  cases r with | key kx hw rd => exact ⟨_, _, rfl, kx, hw, rd⟩
theorem callV_typeKey {a : D} : CallV X W (.type "type") [.key c.C a] .s (.val (.ref c.C)) := fun s ρ vs F hs hr => by
  obtain ⟨v, rfl, r⟩ := repTs_one hr
  obtain ⟨x, u, rfl, ⟨o, e, hc, _⟩, _⟩ := rep_key r
  obtain ⟨hh, g, d, tk, os⟩ := s
  refine wpAny_call (codeAny_of_tree ?_)
  show wpAny _ _ (callAny (.type "type") ⟨[.ref x], []⟩) _ _ _
  simp only [callAny]
  refine wpAny_pure ⟨Code.quiet_builtin _ (by decide +kernel), codeAny_builtin entry_type_call ?_⟩
  unfold Builtin.«type.__call__»
  dsimp only
  unfold shownTypeOf
  repeat (first | (with_reducible refine wpAny_loadPart' e ?_; rw [hc]) | wp_step)
  exact ⟨.refl .., .val _⟩
theorem keepOk_meth {f : Addr} {name : Str} {md : MD} (K : KIn X.B c k) (hkf : ∀ h, c.In k h → KF h f name md c.pm) : KeepOk X W (.ref f) := fun s ρ F hs => by
  obtain ⟨c', ctv, doc, e, _⟩ := hkf _ (K _ (hs.base F))
  unfold keeperOf
  refine wpAny_bind (wpAny_load e ?_)
  exact wpAny_pure rfl
theorem tga_meth {prog : Program} {w : World} {A : Around} {E : Value → Shared → Prop} {s : Shared} {C f : Addr} {name : Str} {tk : Tok} {ma g : Value} {Q : PySem.Fin → Shared → Prop} (ho : Looks (model prog w) s.heap (opaqueClassAbove (.ref C)) none) (hT : Looks (model prog w) s.heap (typeOf (.ref C)) (.type "type"))
    (hm : typeLookup (.type "type") name = pure (some ma)) (hg : specialOf ma "__get__" = pure (some g)) (hs : specialOf ma "__set__" = pure none) (hdl : specialOf ma "__delete__" = pure none)
    (hn : Looks (model prog w) s.heap (typeLookup (.ref C) name) (some (.ref f))) (hf : Looks (model prog w) s.heap (typeOf (.ref f)) (.type "function")) (hq : Q (.done (.ret (.ref f))) s) :
    wpAny (model prog w) A (Builtin.«type.__getattribute__» ⟨[.ref C, .str name tk], []⟩) Q E s := by
  unfold Builtin.«type.__getattribute__»
  refine wpAny_bind (wpAny_pure (wpAny_bind (ho _ _ _ _ (fun _ _ e => e) (wpAny_bind (hT _ _ _ _ (fun _ _ e => e) (wpAny_bind (wpAny_of_eq hm ?_)))))))
  refine wpAny_bind (wpAny_of_eq hg (wpAny_bind (wpAny_of_eq hs ?_)))
  refine wpAny_bind (wpAny_of_eq hdl (wpAny_bind (wpAny_pure ?_)))
  refine wpAny_bind (hn _ _ _ _ (fun _ _ e => e) ?_)
  refine wpAny_bind (hf _ _ _ _ (fun _ _ e => e) ?_)
  exact wpAny_pure hq

theorem cls_attr {prog : Program} {w : World} {A : Around} {E : Value → Shared → Prop} {s : Shared} {C f : Addr} {name : Str} {ma g : Value} {expr : Bool} {Q : Value → Shared → Prop} (ho : Looks (model prog w) s.heap (opaqueClassAbove (.ref C)) none) (hT : Looks (model prog w) s.heap (typeOf (.ref C)) (.type "type"))
    (hm : typeLookup (.type "type") name = pure (some ma)) (hg : specialOf ma "__get__" = pure (some g)) (hs : specialOf ma "__set__" = pure none) (hdl : specialOf ma "__delete__" = pure none)
    (hn : Looks (model prog w) s.heap (typeLookup (.ref C) name) (some (.ref f))) (hf : Looks (model prog w) s.heap (typeOf (.ref f)) (.type "function")) (hq : Q (.ref f) { s with toks := s.toks + 1 }) :
    wpAny (model prog w) A (getAttr (.ref C) name expr) Q E s := by
  have hga := ty_ga
  have hsub : Looks (model prog w) s.heap (isInstance (.ref C) (.type "type")) true := hT.andThen (Looks.of_pure ck_sub_tt)
  refine wpAny_bind (wpAny_mkText (wpAny_holding (wpAny_bind (hT _ _ _ _ (fun _ _ e => e) (wpAny_bind (wpAny_of_eq hga ?_))))))
  dsimp only
  rw [show (onTheHeap (.type "type") && Value.builtin "type.__getattribute__" == Value.builtin "object.__getattribute__") = false from rfl, if_neg (by decide)]
  refine wpAny_bind (wpAny_of_eq (show hookBefore (.type "type") = pure none from rfl) (wpAny_bind (wpAny_attempt (wpAny_holding ?_))))
  unfold callGetattribute
  rw [show (expr && onTheHeap (Value.builtin "type.__getattribute__")) = false from Bool.and_false _, if_neg (by decide)]
  unfold boundAndCalled
  rw [KF.slot_tga.bind]
  refine wpAny_bind (wpAny_pure ?_)
  show wpAny _ _ (call (.builtin "type.__getattribute__") [.ref C, .str name s.toks]) _ _ _
  refine wpAny_call (codeAny_call_builtin KF.slot_tga.plain KF.entry_tga ?_)
  refine @check_slot (model prog w) _ _ { s with toks := s.toks + 1 } "type.__getattribute__" "type" "__getattribute__" (.ref C) [.str name s.toks] [] _ (by decide +kernel) (by decide +kernel) hsub (KF.args_tga (.ref C) (.str name s.toks)) ?_
  refine tga_meth (s := { s with toks := s.toks + 1 }) ho hT hm hg hs hdl hn hf ?_
  exact wpAny_pure hq

theorem getM_cls {f : Addr} {name : Str} {md : MD} {ma g : Value} (K : KIn X.B c k) (hop : ∃ mc, X.B.h₁.Ns cStatics mc ∧ mc "thirdparty.any" = none) (hkf : ∀ h, c.In k h → KF h f name md c.pm)
    (hm : typeLookup (.type "type") name = pure (some ma)) (hg : specialOf ma "__get__" = pure (some g)) (hs : specialOf ma "__set__" = pure none) (hdl : specialOf ma "__delete__" = pure none) (hl : ∀ h, c.In k h → Looks X.M h (typeLookup (.ref c.C) name) (some (.ref f))) :
    GetM X W (.val (.ref c.C)) name (.ref f) false := fun s ρ ov pl F ok r => by
  have r' : Rep W s.heap ov (.val (.ref c.C)) := r
  cases r'
  have KI := K _ (ok.base F)
  obtain ⟨k0, k2, k3, eC⟩ := KI.1.cls
  obtain ⟨c', ctv, doc, ef, _⟩ := hkf _ KI
  have hT : Looks X.M s.heap (typeOf (.ref c.C)) (.type "type") := (Looks.ld eC).andThen .now
  have hf : Looks X.M s.heap (typeOf (.ref f)) (.type "function") := (Looks.ld ef).andThen .now
  have ho : Looks X.M s.heap (opaqueClassAbove (.ref c.C)) Option.none := by
    obtain ⟨mc, n, e⟩ := hop
    exact looks_op (ns_ext (ok.base F) n X.B.ts) e
  unfold getMethod specialOf
  refine wpAny_bind (wpAny_bind (hT _ _ _ _ (fun _ _ e => e) (wpAny_of_eq ty_ga ?_)))
  dsimp only
  rw [if_pos canon_tga]
  refine wpAny_bind (wpAny_mono (Q := fun w s' => w = .ref f ∧ SExt [] s s') (E := NoE) ?_ (fun _ _ z => wpAny_pure ⟨z.2, by rw [z.1]; rfl⟩) fun _ _ z => z)
  exact cls_attr ho hT hm hg hs hdl (hl _ KI) hf ⟨rfl, sext_toks _ _⟩
theorem getM_lt' (K : KIn X.B c k) (hop : ∃ mc, X.B.h₁.Ns cStatics mc ∧ mc "thirdparty.any" = none) : GetM X W (.val (.ref c.C)) (Str.ofString "__lt__") (.ref c.f1) false :=
  getM_cls (ma := .builtin "object.__lt__") (g := .builtin "wrapper_descriptor.__get__") K hop (fun h x => x.1.lt) (by kernel_rfl) (by kernel_rfl) (by kernel_rfl) (by kernel_rfl) fun h x => kl (r := some (.ref c.f1)) (y := some (.builtin "object.__lt__")) x.1 (by kernel_rfl) (by intros; kernel_rfl)

theorem Fine.in1 (F : Fine X) (hn : 1 ≤ X.n) : Fine { X with A := X.A.in1, n := X.n - 1 } :=
  { kind := F.kind, globals := F.globals, builtins := F.builtins, start := F.start, tsub := F.tsub, kd := F.kd, hnd := F.hnd, dep := (by have := F.dep; show X.A.depth + (X.n - 1) < _; omega),
    uni := (by have := F.uni; show X.A.units + 1 + 8 * (X.n - 1) + 100 < _; omega), cells := F.cells }
theorem Ok.in1 {s : Shared} (ok : Ok X W ρ s) : Ok { X with A := X.A.in1, n := X.n - 1 } W ρ s := ⟨ok.ext, ok.nd, ok.ent, ok.own, ok.wal⟩
theorem cmpV_ne {a b : D} {r : Bool} (K : KIn X.B c k) (hn : 1 ≤ X.n) (hc : ∀ X' : Cx, X'.B = X.B → X'.n + 1 = X.n → CallV X' W (.ref c.f3) [.key c.C a, .key c.C b] .f (.bool r)) : CmpV X W .NotEq (.key c.C a) (.key c.C b) (!r) := fun s va vb ρ F ok ra rb => by
  have KI := K _ (ok.base F)
  have ra' := ra
  have rb' := rb
  obtain ⟨x, u, rfl, ⟨ox, ex, cx, _⟩, _⟩ := rep_key ra
  obtain ⟨y, u', rfl, ⟨oy, ey, cy, _⟩, _⟩ := rep_key rb
  obtain ⟨k0, k2, k3, eC⟩ := KI.1.cls
  obtain ⟨v0, qual, sm, tq, tf, tm, fl, sl, st, hN⟩ := KI.1.ns
  obtain ⟨c', ctv, doc, ef, _⟩ := KI.1.eq
  have call := hc { X with A := X.A.in1, n := X.n - 1 } rfl (by show X.n - 1 + 1 = X.n; omega) s ρ [.ref x, .ref y] (F.in1 hn) ok.in1 (.cons ra' (.cons rb' .nil))
  obtain ⟨hh, g, d, t, os⟩ := s
  have OE : hh.OwnEqNoNe x c.C c.f3 "object" [.type "object"] := ⟨ox, _, "K", "cmp_to_key.<locals>.K", c.N, [.type "object"], false, ["obj"], [], false, none, none, k0, none, k2, k3, some (.bool false), "object.__new__", _, some (.builtin "object.__eq__"), ex, cx, eC, hN, by kernel_rfl, ef, rfl, by rw [mroOf_type]; kernel_rfl, by kernel_rfl, by kernel_rfl⟩
  refine compareOp_ne_ownEq PySem.F.cmp_object OE ey cy (by have := F.uni; omega) (wpAny_mono call (fun v s' h => ?_) fun _ _ z => z)
  obtain ⟨k1, p, _⟩ := h
  have p : Rep W s'.heap v (.bool r) := p
  cases p
  exact ⟨r, rfl, k1, rfl⟩
end
end Mine


open PySem PySem.W PyProof.Rows PySem.W.X
set_option maxHeartbeats 4000000
set_option pp.deepTerms false
set_option pp.deepTerms.threshold 3

namespace Mine
open PySem PySem.Calls PyProof.Rows
/-- an object that is no record -/
noncomputable def NoRec (o : Obj) : Prop := ∀ vs, o.data ≠ .fields vs
theorem codeRec_ext {T : List Addr} {h h' : Heap} {c : Value} {q : Str} (x : h.CodeRec c q) (k : Ext T h h') (nr : ∀ a ∈ T, ∃ o, h.get? a = some o ∧ NoRec o) : h'.CodeRec c q := by
  obtain ⟨c₂, o, vs, t, e, g, d, r⟩ := x
  refine ⟨c₂, o, vs, t, e, k.keep _ _ (fun z => ?_) g, d, r⟩
  obtain ⟨o', g', n⟩ := nr _ z
  rw [g] at g'; cases g'
  exact n vs d
theorem kf_ext {T : List Addr} {h h' : Heap} {f : Addr} {name : Str} {x : MD} {pm : Value} (y : KF h f name x pm) (k : Ext T h h') (hf : f ∉ T) (nr : ∀ a ∈ T, ∃ o, h.get? a = some o ∧ NoRec o) : KF h' f name x pm :=
  let ⟨c', ctv, doc, a, b⟩ := y; ⟨c', ctv, doc, k.keep _ _ hf a, codeRec_ext b k nr⟩
noncomputable def Ent.simple : Ent → Bool
  | .un => true
  | .val _ _ => true
  | .gl _ => true
  | _ => false
/-- the slots that law may write -/
noncomputable def slotsOf (env : Env) (ρ : List (Str × Ent)) : List Addr := env.locals :: ρ.filterMap fun p => if p.2.rw && (env.kindOf p.1 == some .cell) then env.cells.lookup p.1 else none
theorem slots_mem {env : Env} {ρ : List (Str × Ent)} {a : Addr} (h : a ∈ slotsOf env ρ) : a = env.locals ∨ ∃ p ∈ ρ, p.2.rw = true ∧ env.kindOf p.1 = some .cell ∧ env.cells.lookup p.1 = some a := by
  rcases List.mem_cons.mp h with h | h
  · exact .inl h
  · obtain ⟨p, hp, e⟩ := List.mem_filterMap.mp h
    split at e
    · rename_i q
      rw [Bool.and_eq_true] at q
      exact .inr ⟨p, hp, q.1, by simpa using q.2, e⟩
    · cases e
theorem mem_slots {env : Env} {ρ : List (Str × Ent)} {a : Addr} {p : Str × Ent} (hp : p ∈ ρ) (hr : p.2.rw = true) (hk : env.kindOf p.1 = some .cell) (e : env.cells.lookup p.1 = some a) : a ∈ slotsOf env ρ :=
  .tail _ (List.mem_filterMap.mpr ⟨p, hp, by rw [if_pos (by rw [hr, hk]; rfl)]; exact e⟩)

noncomputable def reBase (X : Cx) (h : Heap) (T : List Addr) (g : h.Ns mainGlobals X.B.mg) (b : h.Ns builtinsNs X.B.mb) (l : h.NoLimit) (t1 : mainGlobals ∉ T) (t2 : builtinsNs ∉ T) (t3 : cStatics ∉ T) : Base :=
  ⟨X.B.prog, X.B.w, h, T, X.B.mg, X.B.mb, g, b, l, t1, t2, t3⟩
end Mine


open PySem PySem.W PyProof.Rows PySem.W.X
set_option maxHeartbeats 4000000
set_option pp.deepTerms false
set_option pp.deepTerms.threshold 3

namespace Mine
open PySem PySem.Calls PyProof.Rows
theorem callV_lam {X : Cx} {W : List Addr} {a : Addr} {fd : FuncData} {as : List Arg} {body : Expr} {ds : List D} {l : Lv} {d : D} {ρ₀ ρ₁ : List (Str × Ent)} {n : Nat} (hn : n + 1 ≤ X.n)
    (fb : FnB X.B a fd) (hbody : fd.body = .expr body) (hp : fd.params = ⟨[], as, Option.none, [], [], Option.none, []⟩) (hd : fd.defaults = .none) (hc : fd.closure = [])
    (nd : (as.map (·.arg)).Nodup) (lo : LayOf X.B [] fd.scope.names ρ₀) (pu : Puts ρ₀ (as.map (·.arg)) ds ρ₁)
    (run : ∀ X' : Cx, X'.B = X.B → X'.n = n → X'.T = [] → X'.κ = closable fd.scope.names → Fine X' → Ev X' W ρ₁ l body d) : CallV X W (.ref a) ds l d := by
  intro s ρ vs F hs hr
  have hl : vs.length = as.length := by rw [hr.length, ← pu.len, List.length_map]
  refine wpAny_call ?_
  refine call_lam (n := n) (T := []) (F.room.less hn) (fun _ h => nomatch h) (hs.base F) (fb.at (hs.base F)) hbody (bind_plain hp hd hl nd) (hc ▸ CloOk.nil) lo (pu.all hr.length) (by rw [zip_snd _ _ (by rw [List.length_map]; exact hl)]; exact hr.hand) hs.wal ?_
  intro env s' F' ok
  have k : SExt [] s s' := ok.ok.ext
  refine wpAny_mono (run ⟨X.B, X.A.deeper env, env, s, n, [], closable fd.scope.names⟩ rfl rfl rfl rfl F' s' ok.ok) (fun v s'' h => ?_) fun _ _ h => h.elim
  exact ⟨k.trans h.1, h.2.back k⟩

theorem lam_fnB {B' : Base} {f : Addr} {qual : Str} {params : Arguments} {body : Expr} {scope : Scope} {clos : List (Str × Addr)} (x : LamAt B'.h₁ f qual params body scope clos) (hf : f ∉ B'.T) (nr : ∀ a ∈ B'.T, ∃ o, B'.h₁.get? a = some o ∧ NoRec o)
    (hk : scope.kind = .function) (hc : scope.isCoroutine = false) (hg : scope.isGenerator = false) (nd : (scope.names.map (·.1)).Nodup) : ∃ pm c' ctv, FnB B' f (kla_fn "<lambda>" qual params body scope clos pm (.ref c') ctv) := by
  obtain ⟨pm, c', ctv, e, r⟩ := x
  refine ⟨pm, c', ctv, ⟨⟨⟨_, e, rfl⟩, r, rfl, rfl, hk, hc, hg, nd⟩, hf, fun c z w => ?_⟩⟩
  obtain ⟨c₂, o, vs, t, e', g, d, _⟩ := r
  cases e'
  cases z
  obtain ⟨o', g', n⟩ := nr _ w
  rw [g] at g'; cases g'
  exact n vs d

/-- what the statement needs of the heap -/
structure MkIn (B : Base) (hE h : Heap) (env : Env) (ca : Addr) (fdC : FuncData) (stC : Stmt) (k : KSrc) (ar : Arg) (pr pr' : Pos) (cC PC cL PL : Addr) (v0 : Value) (pk : Option (Addr × Addr)) (used : List (Nat × Nat)) : Prop where
  glob : B.mg "cmp_to_key" = some (.ref ca)
  fn : FnIn h ca fdC
  isd : IsDef fdC stC
  cs : CmpSt stC k ar pr pr'
  ko : k.Ok
  qn : fdC.qualname = "cmp_to_key"
  code : fdC.code = .ref cC
  wd : Wd h B.mg B.mb cC PC v0
  kc : KCode h PC k.pos "cmp_to_key.<locals>.K" k.qK pk
  pkE : ∀ x, pk = some x → hE.get? x.2 = none
  ecode : env.code = .ref cL
  hdL : CodeHd h cL PL
  tabL : LTab h PL used
  baL : h.BuiltinsAt B.mg PL
  gPL : mainGlobals ≠ PL
  sPL : cStatics ≠ PL
  nP : PL ≠ PC
  nPK : ∀ x, pk = some x → x.2 ≠ PL
  tL : ∃ c₀ ps₀, hE.TableAt c₀ PL ps₀
  tC : ∃ c₀ ps₀, hE.TableAt c₀ PC ps₀
  gE : ∃ o, hE.get? mainGlobals = some o
  bE : ∃ o, hE.get? builtinsNs = some o
  cE : ∃ o, hE.get? cStatics = some o

theorem codeRec_ne {h : Heap} {c P : Addr} {q : Str} {ps : Array Value} (x : h.CodeRec (.ref c) q) (e : h.get? P = some (tabObj ps)) (ht : TriplesOk ps.toList) : c ≠ P := fun z => by
  obtain ⟨c₂, o, vs, t, e', g, d, r⟩ := x
  cases e'
  rw [z, e] at g; cases g
  exact NoTab.str d r ps ht rfl
theorem tabQ_tab {h h' : Heap} {P L : Addr} {q : Nat → Nat → Str} {ps : Array Value} (x : TabQ h P q) (hx : Heap.ExtBut L h h') (hP : P ≠ L) (e : h.get? L = some (tabObj ps)) (ht : TriplesOk ps.toList) : TabQ h' P q := by
  obtain ⟨qs, e1, t1, hq⟩ := x
  refine ⟨qs, hx _ _ hP e1, t1, fun pos cv z => ?_⟩
  obtain ⟨c', e2, e3, e4⟩ := hq pos cv z
  exact ⟨c', e2, e3, codeRec_extBut e4 hx (codeRec_ne e4 e ht)⟩
theorem kCode_tab {h h' : Heap} {P L : Addr} {pos : Pos} {qual : Str} {qK : Nat → Nat → Str} {pk : Option (Addr × Addr)} {ps : Array Value} (x : KCode h P pos qual qK pk) (hx : Heap.ExtBut L h h') (hP : P ≠ L) (e : h.get? L = some (tabObj ps)) (ht : TriplesOk ps.toList) (hk : ∀ x, pk = some x → x.2 ≠ L) : KCode h' P pos qual qK pk := by
  obtain ⟨qs, e1, t1, r⟩ := x
  refine ⟨qs, hx _ _ hP e1, t1, ?_⟩
  cases pk with
  | none => exact r
  | some y =>
    obtain ⟨r1, r2, r3, r4, r5⟩ := r
    have cn : y.1 ≠ L := codeRec_ne r2 e ht
    exact ⟨r1, codeRec_extBut r2 hx cn, codeHd_but r3 hx cn, tabQ_tab r4 hx (hk _ rfl) e ht, r5⟩
theorem Wd.tab {h h' : Heap} {mg mb : Str → Option Value} {c P : Addr} {v0 : Value} (x : Wd h mg mb c P v0) (tk : TKeep h h') (th : ∀ b o, h.get? b = some o → ∃ o', h'.get? b = some o') : Wd h' mg mb c P v0 :=
  { x with g := tk.ns x.g, b := tk.ns x.b, ba := (let ⟨bm, o, e, n1, n2, n3, g, c, r⟩ := x.ba; ⟨bm, o, e, n1, n2, n3, tk _ _ g (.cls (by rw [c]; intro z; cases z)), c, r⟩), sm := (let ⟨o, e⟩ := x.sm; th _ _ e), lim := tk.lim x.lim, op := (let ⟨mc, n, e⟩ := x.op; ⟨mc, tk.ns n, e⟩), hd := tk.codeHd x.hd }
theorem there_but {P : Addr} {h h' : Heap} (x : Heap.ExtBut P h h') (e : ∃ o, h'.get? P = some o) : ∀ b o, h.get? b = some o → ∃ o', h'.get? b = some o' := fun b o q => by
  by_cases z : b = P
  · rw [z]; exact e
  · exact ⟨o, x _ _ z q⟩

theorem mk_expr {X : Cx} {hE : Heap} {ρ : List (Str × Ent)} {s : Shared} {ca : Addr} {fdC : FuncData} {stC : Stmt} {k : KSrc} {ar : Arg} {pr pr' : Pos} {cC PC cL PL : Addr} {v0 : Value} {pk : Option (Addr × Addr)} {used : List (Nat × Nat)} {n : Nat}
    {params : Arguments} {body : Expr} {scope : Scope} {pos p1 p2 : Pos} {clos : List (Str × Addr)} {Q : Value → Shared → Prop}
    (F : Fine X) (ok : Ok X [] ρ s) (hn : n + 1 ≤ X.n) (mi : MkIn X.B hE s.heap X.env ca fdC stC k ar pr pr' cC PC cL PL v0 pk used) (old : OldK hE s.heap) (hg : (Str.ofString "cmp_to_key", Ent.gl (.ref ca)) ∈ ρ)
    (hdef : defaultsOf params X.env = ([], [])) (hcl : closureFor scope X.env = pure clos) (hu : (pos.line, pos.col) ∉ used)
    (hq : ∀ lam cK PK C N dsc f0 f1 f2 f3 f4 f5 cc h1 s', TKeep s.heap s'.heap → OldK hE s'.heap → s.heap.get? lam = none → LamAt s'.heap lam (X.env.qual ++ "<lambda>") params body scope clos → (∀ b o, s.heap.get? b = some o → ∃ o', h1.get? b = some o') →
      CmpRes k h1 s'.heap (.ref lam) PC cK PK C N dsc f0 f1 f2 f3 f4 f5 cc pk ((X.B.mg "__name__").getD .none) →
      MkIn X.B hE s'.heap X.env ca fdC stC k ar pr pr' cC PC cL PL v0 (some (cK, PK)) ((pos.line, pos.col) :: used) → s'.gens = s.gens → s'.os = s.os → Q (.ref C) s') :
    wpAny X.M X.A (eval (.Call (.Name "cmp_to_key" p1) [.Lambda params body scope pos] [] p2) X.env) Q NoE s := by
  obtain ⟨h, g, d, t, os⟩ := s
  show wpAny X.M X.A (eval (.Name "cmp_to_key" p1) X.env >>= fun v => callWith p2 v [] (backTo p2 (starEach [.Lambda params body scope pos] X.env)) (backToKw p2 (keywordEach [] X.env))) _ _ _
  have hkd : X.env.kindOf "cmp_to_key" = some .globalImplicit := by
    rcases ok.ent _ hg with ⟨v, e, hk, _⟩ | ⟨⟨ov, _, z⟩, _⟩
    · exact hk
    · cases z
  refine wpAny_bind (Calls.Name_function_global F.kind hkd (Calls.loadGlobal_global (by rw [F.globals]; exact ok.nsg F) mi.glob ?_) (by decide +kernel))
  have fnAt : ∀ {h' : Heap}, TKeep h h' → FnAt ca h' := fun tk => by
    obtain ⟨o, e, dd⟩ := (tk.fnIn mi.fn).obj
    obtain ⟨oc, od, odt, osl⟩ := o
    cases dd
    exact ⟨oc, od, _, osl, e⟩
  refine PySem.W.callWith_F (fnAt (.of fun _ _ e => e)) (wpAny_items_cons (lam_eval hdef hcl F.globals (ok.nsg F) mi.ecode mi.hdL mi.tabL hu mi.gPL mi.baL fun f h1 t1 tk1 x1 gr1 fr1 la1 tab1 => wpAny_items_nil ⟨fnAt tk1, ?_⟩) rfl)
  obtain ⟨psL, eL, tL, _⟩ := id mi.tabL
  have th1 := there_but x1 (let ⟨ps, more, _, e⟩ := gr1; ⟨_, e⟩)
  have kc1 := kCode_tab mi.kc x1 mi.nP.symm eL tL mi.nPK
  refine wpAny_call (cmp_call (B := reBase X h1 [] (tk1.ns (ok.nsg F)) (tk1.ns (ok.nsb F)) (tk1.lim (ok.lim F)) List.not_mem_nil List.not_mem_nil List.not_mem_nil) (n := n) (F.room.less hn) (.refl ..) (tk1.fnIn mi.fn) mi.isd mi.cs mi.ko mi.qn mi.code (mi.wd.tab tk1 th1) kc1 fun cK PK C N dsc f0 f1 f2 f3 f4 f5 cc s' cr gg oo => ?_)
  obtain ⟨cL0, psL0, tL0⟩ := mi.tL
  obtain ⟨cC0, psC0, tC0⟩ := mi.tC
  have tk2 : TKeep h1 s'.heap := cr.tk kc1
  have frPK : hE.get? PK = none := by
    cases hpk : pk with
    | none =>
      have z := cr.pkn hpk
      cases q : hE.get? PK with
      | none => rfl
      | some o =>
        obtain ⟨o', e'⟩ := old.there _ _ q
        obtain ⟨o'', e''⟩ := th1 _ _ e'
        have z : h1.get? PK = none := z
        rw [z] at e''; cases e''
    | some x => have z := cr.pks x hpk; have w := mi.pkE x hpk; rw [z] at w; exact w
  have old1 : OldK hE h1 := oldK_grown (T := []) old (fun _ h => nomatch h) tL0 gr1 (fun b o e1 _ e2 => x1 _ _ e1 e2) mi.sPL.symm
  have old2 : OldK hE s'.heap := oldK_grown (T := [PK]) old1 (fun a ha => by rw [List.mem_singleton.mp ha]; exact frPK) tC0 cr.grown (fun b o e1 e2 e3 => cr.keep _ _ e1 (fun z => e2 (z ▸ .head _)) e3) mi.wd.sP.symm
  have nPKL : PK ≠ PL := fun z => by
    obtain ⟨ps1, eL1, _⟩ := id tab1
    cases hpk : pk with
    | none => have q := cr.pkn hpk; have q : h1.get? PK = none := q; rw [z, eL1] at q; cases q
    | some x => have q := cr.pks x hpk; exact mi.nPK x hpk (by rw [q]; exact z)
  have th2 : ∀ b o, h1.get? b = some o → ∃ o', s'.heap.get? b = some o' := fun b o e => by
    obtain ⟨ps, e1, _, _, _, _, ⟨ps', e2, _⟩, _⟩ := id cr.code
    by_cases z1 : b = PC
    · rw [z1]; exact ⟨_, e1⟩
    · by_cases z2 : b = PK
      · rw [z2]; exact ⟨_, e2⟩
      · exact ⟨o, cr.keep _ _ z1 z2 e⟩
  have tk12 := tk1.trans tk2
  have mi' : MkIn X.B hE s'.heap X.env ca fdC stC k ar pr pr' cC PC cL PL v0 (some (cK, PK)) ((pos.line, pos.col) :: used) :=
    { mi with
      fn := tk12.fnIn mi.fn
      wd := (mi.wd.tab tk1 th1).tab tk2 th2
      kc := cr.code
      pkE := fun x z => by cases z; exact frPK
      hdL := tk12.codeHd mi.hdL
      tabL := (let ⟨ps, e, r⟩ := tab1; ⟨ps, cr.keep _ _ mi.nP nPKL.symm e, r⟩)
      baL := (let ⟨bm, o, e, n1, n2, n3, g, c, r⟩ := mi.baL; ⟨bm, o, e, n1, n2, n3, tk12 _ _ g (.cls (by rw [c]; intro z; cases z)), c, r⟩)
      nPK := fun x z => by cases z; exact nPKL }
  exact hq f cK PK C N dsc f0 f1 f2 f3 f4 f5 cc h1 s' (tk1.trans tk2) old2 fr1 (tk2.lam la1) th1 cr mi' gg oo
end Mine



namespace Mine
open PySem PyProof.Rows PySem.Calls

noncomputable def recAt (st : Stmt) : DefRec := match st with
  | .FunctionDef name a b _ _ _ sc _ _ pos => ⟨name, a, b, sc, pos⟩
  | _ => ⟨Str.empty, ⟨[], [], Option.none, [], [], Option.none, []⟩, [], default, default⟩

noncomputable def base0 (prog : Program) (w : World) {p : Program} {loose : List Str} {mean : ExcName → Option Value} {mg mb : Str → Option Value} {h : Heap} (T : Top p loose mean mg mb h) : Base where
  prog := prog
  w := w
  h₁ := h
  T := []
  mg := mg
  mb := mb
  nsg := T.g
  nsb := T.b
  lim := T.nolimit
  tg := List.not_mem_nil
  tb := List.not_mem_nil
  ts := List.not_mem_nil

section
variable {prog : Program} {w : World} {p : Program} {loose : List Str} {mean : ExcName → Option Value} {mg mb : Str → Option Value} {h : Heap} (T : Top p loose mean mg mb h)
include T
theorem fn_base {st : Stmt} (hm : recAt st ∈ recsOf p) (hb : (recAt st).body = fBody st) (hp : (recAt st).params = fArgs st) (hs : (recAt st).scope = fScope st)
    (hk : (fScope st).kind = .function) (hc : (fScope st).isCoroutine = false) (hg : (fScope st).isGenerator = false) (nd : ((fScope st).names.map (·.1)).Nodup) :
    ∃ a, mg (recAt st).name = some (.ref a) ∧ DefAt (base0 prog w T) a st := by
  obtain ⟨a, o, pm, code, doc, e, g, dt, cr⟩ := T.fn _ hm
  rw [hb, hp, hs] at dt
  refine ⟨a, e, ⟨_, ⟨⟨⟨o, g, dt⟩, cr, rfl, rfl, hk, hc, hg, nd⟩, List.not_mem_nil, fun _ _ => List.not_mem_nil⟩, ⟨rfl, rfl, rfl, rfl, rfl⟩⟩⟩
theorem glob_bi (x : Str) {v : Value} (hh : x ∉ startupNames ∧ x ∉ loose ∧ x ∉ (recsOf p).map (·.name) ∧ x ∉ (litsOf p).map (·.1) ∧ x ∉ (clssOf p loose).map (·.name) ∧ x ≠ Str.ofString "__name__") (hv : bootBuiltins x = some v) : GlobIs (base0 prog w T) x v :=
  let ⟨h1, h2, h3, h4, h5, hx⟩ := hh; .inr ⟨T.free x h1 h2 h3 h4 h5, (T.builtins x hx).trans hv⟩
end

noncomputable def env0 : Env := { scope := ⟨.function, [], false, false, []⟩, locals := 0, globals := mainGlobals, cells := [], builtins := builtinsNs }
noncomputable def cx0 (B : Base) (s : Shared) (n : Nat) : Cx := ⟨B, callerA, env0, s, n, [], []⟩
theorem fine0 {B : Base} {s : Shared} {n : Nat} (hs : s.heap = B.h₁) (hn : n ≤ 600) : Fine (cx0 B s n) where
  kind := rfl
  globals := rfl
  builtins := rfl
  start := by show Ext B.T B.h₁ s.heap; rw [hs]; exact .refl ..
  tsub := fun _ h => nomatch h
  kd := fun _ h => nomatch h
  hnd := rfl
  dep := by show 1 + claimMargin + n < recursionLimit; unfold claimMargin recursionLimit; omega
  uni := by show 4 + 8 * n + 100 < cLine; unfold cLine; omega
  cells := fun x y c h => by cases h
theorem well_list {P : Params} {h : Heap} {a : Addr} {vs : List Value} {xs : List PyData} (x : Well P h (.ref a) (ofPy (.list xs))) (hl : h.IsList a vs.toArray) : h.get? a = some { cls := .type "list", data := .seq vs.toArray } := by
  rw [ofPy] at x
  cases x with
  | list e _ =>
    obtain ⟨o, e2, _, n, hd⟩ := hl
    rw [e] at e2
    cases e2
    have hd : Data.seq _ _ = Data.seq _ _ := hd
    injection hd with h1 h2
    rw [e, h1]
end Mine


open PySem PySem.W PyProof.Rows PySem.W.X
set_option maxHeartbeats 4000000
set_option pp.deepTerms false
set_option pp.deepTerms.threshold 3

namespace Mine
open PySem PySem.Calls PyProof.Rows
theorem ns_none_of {K : Frag} {h : Heap} {a : Addr} {m : Str → Option Value} {n : Str} (X : K.In h) (G : h.Ns a m) (e : nsIn K a n = some none) : m n = none := by
  obtain ⟨o, es, ep, ho, hd, _, hf⟩ := G
  unfold nsIn at e
  split at e
  · rename_i c d es' n' sl q
    have := X _ _ q
    rw [ho] at this; cases this
    cases hd
    rw [← hf]
    split at e
    · cases e
    · rename_i z
      unfold nsFind findBy
      rw [← Array.find?_toList, z]; rfl
  · cases e
section
variable {prog : Program} {w : World} {p : Program} {loose : List Str} {mean : ExcName → Option Value} {mg mb : Str → Option Value} {h : Heap}
/-- what the statement needs, at law's start -/
theorem mk_start (T : Top p loose mean mg mb h) {K : Frag} (KX : K.In h) {stC : Stmt} {k : KSrc} {ar : Arg} {pr pr' : Pos} {cC PC cL PL : Addr} {s0 : Str} {t0 : Tok}
    (cs : CmpSt stC k ar pr pr') (ko : k.Ok) (hm : recAt stC ∈ recsOf p) (hnm : (recAt stC).name = "cmp_to_key") (hb : (recAt stC).body = fBody stC) (hp : (recAt stC).params = fArgs stC) (hs : (recAt stC).scope = fScope stC)
    (hk : (fScope stC).kind = .function) (hc : (fScope stC).isCoroutine = false) (hg : (fScope stC).isGenerator = false) (nd : ((fScope stC).names.map (·.1)).Nodup)
    (rC : (recsOf p).find? (fun e => e.name == ("cmp_to_key" : Str)) = some (recAt stC)) (tC : tabIn K "cmp_to_key" = some (cC, PC)) {dL : DefRec} (rL : (recsOf p).find? (fun e => e.name == ("law" : Str)) = some dL) (tL : tabIn K "law" = some (cL, PL))
    (q1 : nsIn K cStatics "thirdparty.any" = some none) (q2 : nsIn K mainGlobals "__name__" = some (some (.str s0 t0))) (q3 : ∃ o, h.get? sysModules = some o) (q4 : nsIn K mainGlobals "object" = some none)
    (n1 : mainGlobals ≠ PC) (n2 : cStatics ≠ PC) (n3 : mainGlobals ≠ PL) (n4 : cStatics ≠ PL) (n5 : PL ≠ PC) (env : Env) (he : env.code = .ref cL) :
    ∃ ca fdC, FnB (base0 prog w T) ca fdC ∧ MkIn (base0 prog w T) h h env ca fdC stC k ar pr pr' cC PC cL PL (.str s0 t0) none [] := by
  obtain ⟨a, o, pm, code, doc, e, g, dt, cr⟩ := T.fn _ hm
  rw [hb, hp, hs] at dt
  obtain ⟨hdC, eC⟩ := tab_of T KX rC tC
  obtain ⟨hdL, eL⟩ := tab_of T KX rL tL
  rw [hnm] at e
  have cd := law_code KX T.g tC e g dt
  obtain ⟨bm, ob, b1, b2, b3, b4, b5, b6⟩ := T.bmain
  have nb : ∀ {P : Addr} {ps : Array Value}, h.get? P = some (tabObj ps) → bm ≠ P := fun {P ps} q z => by
    rw [z, q] at b3; cases b3; cases b4
  have ng : bm ≠ mainGlobals := fun z => by
    obtain ⟨o', es, ep, q, d', _⟩ := T.g
    rw [z, q] at b3; cases b3
    rw [b6] at d'; cases d'
  have fb : FnB (base0 prog w T) a (docDef (recAt stC).name (fArgs stC) (fBody stC) (fScope stC) pm code doc) := ⟨⟨⟨o, g, dt⟩, cr, rfl, rfl, hk, hc, hg, nd⟩, List.not_mem_nil, fun _ _ => List.not_mem_nil⟩
  obtain ⟨mc, nl, _⟩ := T.nolimit
  refine ⟨a, _, fb, { glob := e, fn := fb.fn, isd := ⟨rfl, rfl, rfl, rfl, rfl⟩, cs := cs, ko := ko, qn := hnm, code := cd, wd := ?_, kc := ⟨#[], eC, trivial, rfl⟩, pkE := fun x z => (by cases z), ecode := he, hdL := hdL, tabL := ⟨#[], eL, trivial, fun _ _ => rfl⟩, baL := ⟨bm, ob, b1, b2, ng, nb eL, b3, b4, b5, b6⟩, gPL := n3, sPL := n4, nP := n5, nPK := fun x z => (by cases z), tL := ⟨cL, #[], hdL.tab eL⟩, tC := ⟨cC, #[], hdC.tab eC⟩, gE := (let ⟨o, _, _, e, _⟩ := T.g; ⟨o, e⟩), bE := (let ⟨o, _, _, e, _⟩ := T.b; ⟨o, e⟩), cE := (let ⟨o, _, _, e, _⟩ := nl; ⟨o, e⟩) }⟩
  exact { g := T.g, b := T.b, ba := ⟨bm, ob, b1, b2, ng, nb eC, b3, b4, b5, b6⟩, go := mg_none_of KX T.g q4, bo := (T.builtins _ (by decide +kernel)).trans (by kernel_rfl), bb := (T.builtins _ (by decide +kernel)).trans (by kernel_rfl), gn := mg_of KX T.g q2, v0 := ⟨s0, t0, rfl⟩, sm := q3, lim := T.nolimit, op := ⟨mc, nl, ns_none_of KX nl q1⟩, gP := n1, sP := n2, hd := hdC }
end
end Mine


open PySem PySem.W PyProof.Rows PySem.W.X
set_option maxHeartbeats 4000000
set_option pp.deepTerms false
set_option pp.deepTerms.threshold 3

namespace Mine
open PySem PySem.Calls PyProof.Rows
/-- an object that holds a name's value -/
structure SlotObj (o : Obj) : Prop where
  nf : ∀ vs, o.data ≠ .fields vs
  nfn : ∀ fd, o.data ≠ .func fd
  np : o.data ≠ .plain
theorem slotObj_ns {h : Heap} {a : Addr} {m : Str → Option Value} (n : h.Ns a m) : ∃ o, h.get? a = some o ∧ SlotObj o :=
  let ⟨o, es, ep, q, d, _⟩ := n; ⟨o, q, ⟨fun vs z => (by rw [d] at z; cases z), fun vs z => (by rw [d] at z; cases z), fun z => (by rw [d] at z; cases z)⟩⟩
theorem slotObj_cell {h : Heap} {a : Addr} {v : Option Value} (n : h.IsCell a v) : ∃ o, h.get? a = some o ∧ SlotObj o :=
  let ⟨o, q, d⟩ := n; ⟨o, q, ⟨fun vs z => (by rw [d] at z; cases z), fun vs z => (by rw [d] at z; cases z), fun z => (by rw [d] at z; cases z)⟩⟩
theorem SlotObj.noTab {o : Obj} (x : SlotObj o) : NoTab o := .data x.nf
theorem slot_at {X : Cx} {W : List Addr} {ρ : List (Str × Ent)} {s : Shared} (ok : Ok X W ρ s) (hml : ∃ m, s.heap.Ns X.env.locals m) : ∀ a ∈ slotsOf X.env ρ, ∃ o, s.heap.get? a = some o ∧ SlotObj o := fun a ha => by
  rcases slots_mem ha with rfl | ⟨p, hp, hr, hk, e⟩
  · obtain ⟨m, n⟩ := hml; exact slotObj_ns n
  · rcases ok.ent p hp with ⟨v, e', _⟩ | ⟨⟨ov, h1, _⟩, _⟩
    · rw [e'] at hr; cases hr
    · rcases h1 with ⟨z, _⟩ | ⟨_, c, e1, n⟩
      · rw [hk] at z; cases z
      · rw [e] at e1; cases e1; exact slotObj_cell n
/-- law's own slots, seen from its start -/
theorem slot_new {X : Cx} {W : List Addr} {ρ : List (Str × Ent)} {s : Shared} (ok : Ok X W ρ s) (hT : X.T = []) (hloc : X.sE.heap.get? X.env.locals = none) : ∀ a ∈ slotsOf X.env ρ, X.sE.heap.get? a = none := fun a ha => by
  rcases slots_mem ha with rfl | ⟨p, hp, hr, hk, e⟩
  · exact hloc
  · rcases ok.ent p hp with ⟨v, e', _⟩ | ⟨_, fr⟩
    · rw [e'] at hr; cases hr
    · rcases (fr hr).2.2 a hk e with z | z
      · exact z
      · rw [hT] at z; cases z
theorem ns_loc {X : Cx} {W : List Addr} {ρ : List (Str × Ent)} {s : Shared} {p : Str × Ent} (ok : Ok X W ρ s) (hp : p ∈ ρ) (hk : X.env.kindOf p.1 = some .local) : ∃ m, s.heap.Ns X.env.locals m := by
  rcases ok.ent p hp with ⟨v, _, e, _⟩ | ⟨⟨ov, h1, _⟩, _⟩
  · rw [hk] at e; cases e
  · rcases h1 with ⟨_, m, n, _⟩ | ⟨z, _⟩
    · exact ⟨m, n⟩
    · rw [hk] at z; rcases z with z | z <;> cases z

noncomputable def reBase2 (B : Base) (h : Heap) (T : List Addr) (g : h.Ns mainGlobals B.mg) (b : h.Ns builtinsNs B.mb) (l : h.NoLimit) (t1 : mainGlobals ∉ T) (t2 : builtinsNs ∉ T) (t3 : cStatics ∉ T) : Base :=
  ⟨B.prog, B.w, h, T, B.mg, B.mb, g, b, l, t1, t2, t3⟩
/-- law's frame goes on over the heap as it is now -/
theorem rebase2 {X : Cx} {ρ : List (Str × Ent)} {s s' : Shared} {hE : Heap} (F : Fine X) (ok : Ok X [] ρ s) (fr : ∀ a ∈ slotsOf X.env ρ, hE.get? a = none) (tk : TKeep s.heap s'.heap) (hv : ∀ p ∈ ρ, p.2.simple = true)
    (gE : ∃ o, hE.get? mainGlobals = some o) (bE : ∃ o, hE.get? builtinsNs = some o) (cE : ∃ o, hE.get? cStatics = some o) :
    ∃ B' : Base, B'.prog = X.B.prog ∧ B'.w = X.B.w ∧ B'.mg = X.B.mg ∧ B'.mb = X.B.mb ∧ B'.h₁ = s'.heap ∧ B'.T = slotsOf X.env ρ ∧
      Fine ⟨B', X.A, X.env, s', X.n, slotsOf X.env ρ, X.κ⟩ ∧ Ok ⟨B', X.A, X.env, s', X.n, slotsOf X.env ρ, X.κ⟩ [] ρ s' := by
  have out : ∀ a, (∃ o, hE.get? a = some o) → a ∉ slotsOf X.env ρ := fun a ⟨o, e⟩ z => by rw [fr a z] at e; cases e
  refine ⟨reBase2 X.B s'.heap (slotsOf X.env ρ) (tk.ns (ok.nsg F)) (tk.ns (ok.nsb F)) (tk.lim (ok.lim F)) (out _ gE) (out _ bE) (out _ cE), rfl, rfl, rfl, rfl, rfl, rfl, ?_, ?_⟩
  · exact ⟨F.kind, F.globals, F.builtins, .refl .., fun a ha => ha, F.kd, F.hnd, F.dep, F.uni, F.cells⟩
  · refine ⟨.refl .., ok.nd, fun p hp => ?_, fun p hp q hq a ns b ms e1 e2 => ?_, fun _ h => nomatch h⟩
    · rcases ok.ent p hp with g | ⟨⟨ov, h1, h2⟩, fr⟩
      · exact .inl g
      · refine .inr ⟨⟨ov, ?_, ?_⟩, fun hr => ?_⟩
        · rcases h1 with ⟨a, m, n, e⟩ | ⟨a, c, e, n⟩
          · exact .inl ⟨a, m, tk.ns n, e⟩
          · exact .inr ⟨a, c, e, tk.cell n⟩
        · have sp := hv p hp
          obtain ⟨y, e⟩ := p
          cases e with
          | un => trivial
          | val _ d => obtain ⟨v, e, r⟩ := h2; exact ⟨v, e, tk.rep r⟩
          | gl v => cases h2
          | _ => cases sp
        · have f := fr hr
          exact ⟨fun _ => .inr (.head _), f.2.1, fun c hk e => .inr (mem_slots hp hr hk e)⟩
    · have sp := hv p hp
      rw [e1] at sp; cases sp

/-- what stays where it is, from one base to the next -/
structure Re (X : Cx) (ρ : List (Str × Ent)) (s s' : Shared) (B' : Base) : Prop where
  prog : B'.prog = X.B.prog
  w : B'.w = X.B.w
  mg : B'.mg = X.B.mg
  mb : B'.mb = X.B.mb
  h₁ : B'.h₁ = s'.heap
  T : B'.T = slotsOf X.env ρ
  tk : TKeep s.heap s'.heap
  base : Ext X.B.T X.B.h₁ s.heap
  sl : ∀ a ∈ slotsOf X.env ρ, ∃ o, s.heap.get? a = some o ∧ SlotObj o
theorem Re.nr {X : Cx} {ρ : List (Str × Ent)} {s s' : Shared} {B' : Base} (r : Re X ρ s s' B') : ∀ a ∈ B'.T, ∃ o, B'.h₁.get? a = some o ∧ SlotObj o := fun a ha => by
  rw [r.T] at ha
  obtain ⟨o, e, n⟩ := r.sl a ha
  exact ⟨o, by rw [r.h₁]; exact r.tk _ _ e n.noTab, n⟩
theorem Re.fnB {X : Cx} {ρ : List (Str × Ent)} {s s' : Shared} {B' : Base} {a : Addr} {fd : FuncData} (r : Re X ρ s s' B') (fb : FnB X.B a fd) : FnB B' a fd := by
  have fE := fb.at r.base
  refine ⟨by rw [r.h₁]; exact r.tk.fnIn fE, fun z => ?_, fun c e z => ?_⟩
  · rw [r.T] at z
    obtain ⟨o, e, n⟩ := r.sl _ z
    obtain ⟨o', e', d⟩ := fE.obj
    rw [e] at e'; cases e'
    exact n.nfn _ d
  · rw [r.T] at z
    obtain ⟨o, e1, n⟩ := r.sl _ z
    obtain ⟨c₂, o', vs, t, e', g, d, _⟩ := fE.code
    rw [e] at e'; cases e'
    rw [e1] at g; cases g
    exact n.nf _ d
theorem Re.defAt {X : Cx} {ρ : List (Str × Ent)} {s s' : Shared} {B' : Base} {a : Addr} {st : Stmt} (r : Re X ρ s s' B') (d : DefAt X.B a st) : DefAt B' a st :=
  let ⟨fd, fb, i⟩ := d.fn; ⟨fd, r.fnB fb, i⟩
theorem Re.glob {X : Cx} {ρ : List (Str × Ent)} {s s' : Shared} {B' : Base} {x : Str} {v : Value} (r : Re X ρ s s' B') (d : GlobIs X.B x v) : GlobIs B' x v := by
  unfold GlobIs
  rw [r.mg, r.mb]; exact d

noncomputable def KC.addrs (c : KC) : List Addr := [c.C, c.N, c.dsc, c.f0, c.f1, c.f2, c.f3, c.f4, c.f5, c.cc]
/-- a class that stands -/
structure KS (B : Base) (c : KC) (k : KSrc) : Prop where
  at_ : c.In k B.h₁
  away : ∀ a ∈ c.addrs, a ∉ B.T
  nr : ∀ a ∈ B.T, ∃ o, B.h₁.get? a = some o ∧ SlotObj o
theorem kf_ext2 {T : List Addr} {h h' : Heap} {f : Addr} {name : Str} {x : MD} {pm : Value} (y : KF h f name x pm) (k : Ext T h h') (hf : f ∉ T) (nr : ∀ a ∈ T, ∃ o, h.get? a = some o ∧ SlotObj o) : KF h' f name x pm :=
  kf_ext y k hf fun a ha => let ⟨o, e, n⟩ := nr a ha; ⟨o, e, n.nf⟩
theorem KS.kin {B : Base} {c : KC} {k : KSrc} (x : KS B c k) : KIn B c k := fun h e => by
  obtain ⟨⟨⟨a, b, d, q⟩, ⟨a1, b1, c1, d1, e1, f1, g1, i1, j1, n1⟩, ⟨t, q2⟩, i, lt, gt, eq, le, ge⟩, o, q3, d3⟩ := x.at_
  have nT := x.away
  have nr := x.nr
  refine ⟨⟨⟨a, b, d, e.keep _ _ (nT c.C (by simp [KC.addrs])) q⟩, ⟨a1, b1, c1, d1, e1, f1, g1, i1, j1, ns_ext e n1 (nT c.N (by simp [KC.addrs]))⟩, ⟨t, e.keep _ _ (nT c.dsc (by simp [KC.addrs])) q2⟩,
    kf_ext2 i e (nT c.f0 (by simp [KC.addrs])) nr, kf_ext2 lt e (nT c.f1 (by simp [KC.addrs])) nr, kf_ext2 gt e (nT c.f2 (by simp [KC.addrs])) nr, kf_ext2 eq e (nT c.f3 (by simp [KC.addrs])) nr, kf_ext2 le e (nT c.f4 (by simp [KC.addrs])) nr, kf_ext2 ge e (nT c.f5 (by simp [KC.addrs])) nr⟩, ?_⟩
  exact ⟨o, e.keep _ _ (nT c.cc (by simp [KC.addrs])) q3, d3⟩
theorem TKeep.kf {h h' : Heap} (k : TKeep h h') {f : Addr} {name : Str} {x : MD} {pm : Value} (y : KF h f name x pm) : KF h' f name x pm :=
  let ⟨c', ctv, doc, a, b⟩ := y; ⟨c', ctv, doc, k _ _ a (.cls (by intro z; cases z)), k.codeRec b⟩
theorem TKeep.kcIn {h h' : Heap} (tk : TKeep h h') {c : KC} {k : KSrc} (x : c.In k h) : c.In k h' := by
  obtain ⟨⟨⟨a, b, d, q⟩, ⟨a1, b1, c1, d1, e1, f1, g1, i1, j1, n1⟩, ⟨t, q2⟩, i, lt, gt, eq, le, ge⟩, n⟩ := x
  exact ⟨⟨⟨a, b, d, tk _ _ q (.cls (by intro z; cases z))⟩, ⟨a1, b1, c1, d1, e1, f1, g1, i1, j1, tk.ns n1⟩, ⟨t, tk _ _ q2 (.cls (by intro z; cases z))⟩, tk.kf i, tk.kf lt, tk.kf gt, tk.kf eq, tk.kf le, tk.kf ge⟩, tk.cell n⟩
theorem Re.ks {X : Cx} {ρ : List (Str × Ent)} {s s' : Shared} {B' : Base} {c : KC} {k : KSrc} (r : Re X ρ s s' B') (x : KS X.B c k) (hT : ∀ a ∈ slotsOf X.env ρ, a ∈ X.B.T) : KS B' c k :=
  ⟨by rw [r.h₁]; exact r.tk.kcIn (x.kin _ r.base), fun a ha z => x.away a ha (hT a (by rw [← r.T]; exact z)), r.nr⟩

/-- x = cmp_to_key(lambda ..) -/
theorem mk_stmt {X : Cx} {hE : Heap} {ρ : List (Str × Ent)} {s : Shared} {ca : Addr} {fdC : FuncData} {stC : Stmt} {k : KSrc} {ar : Arg} {pr pr' : Pos} {cC PC cL PL : Addr} {v0 : Value} {pk : Option (Addr × Addr)} {used : List (Nat × Nat)} {n : Nat}
    {params : Arguments} {body : Expr} {scope : Scope} {pos p p1 p2 p3 : Pos} {clos : List (Str × Addr)} {x : Str} {f : Ent → List (Str × Ent)} {rest : List Stmt} {Q : Flow → Shared → Prop} {pl : Str × Ent}
    (F : Fine X) (ok : OkP X [] [] ρ s) (hn : n + 1 ≤ X.n) (mi : MkIn X.B hE s.heap X.env ca fdC stC k ar pr pr' cC PC cL PL v0 pk used) (old : OldK hE s.heap) (fr : ∀ a ∈ slotsOf X.env ρ, hE.get? a = none) (hv : ∀ p ∈ ρ, p.2.simple = true)
    (hpl : pl ∈ ρ) (hkl : X.env.kindOf pl.1 = some .local) (hg : (Str.ofString "cmp_to_key", Ent.gl (.ref ca)) ∈ ρ)
    (hdef : defaultsOf params X.env = ([], [])) (hcl : closureFor scope X.env = pure clos) (hu : (pos.line, pos.col) ∉ used)
    (sk : scope.kind = .function) (sc : scope.isCoroutine = false) (sg : scope.isGenerator = false) (snd : (scope.names.map (·.1)).Nodup) (hp : PutF ρ x f)
    (hs : ∀ env, swapsWith (.Call (.Name "cmp_to_key" p1) [.Lambda params body scope pos] [] p2) (some (.Name x p)) p3.line env = pure false)
    (q : ∀ (B' : Base) (c : KC) lam pm c' ctv cK PK s1 s', Re X ρ s s1 B' → KS B' c k → (∀ a ∈ c.addrs, s.heap.get? a = none) → c.v = .ref lam → FnB B' lam (kla_fn "<lambda>" (X.env.qual ++ "<lambda>") params body scope clos pm (.ref c') ctv) →
      Fine ⟨B', X.A, X.env, s1, X.n, slotsOf X.env ρ, X.κ⟩ → OkP ⟨B', X.A, X.env, s1, X.n, slotsOf X.env ρ, X.κ⟩ [] [] (f (.val true (.val (.ref c.C)))) s' → OldK hE s1.heap →
      MkIn X.B hE s1.heap X.env ca fdC stC k ar pr pr' cC PC cL PL v0 (some (cK, PK)) ((pos.line, pos.col) :: used) → s1.gens = s.gens → s1.os = s.os → wpAny (model B'.prog B'.w) X.A (execs rest X.env) Q NoE s') :
    wpAny X.M X.A (execs (.Assign [.Name x p] (.Call (.Name "cmp_to_key" p1) [.Lambda params body scope pos] [] p2) p3 :: rest) X.env) Q NoE s := by
  have sl := slot_at ok.ok (ns_loc ok.ok hpl hkl)
  refine wpAny_execs_cons (wpAny_Assign_Name (mk_expr F ok.ok hn mi old hg hdef hcl hu fun lam cK PK C N dsc f0 f1 f2 f3 f4 f5 cc h1 s1 tk old1 frl la th1 cr mi' gg oo => ?_) (hs _))
  obtain ⟨B', e1, e2, e3, e4, e5, e6, F', ok'⟩ := rebase2 F ok.ok fr tk hv mi.gE mi.bE mi.cE
  have re : Re X ρ s s1 B' := ⟨e1, e2, e3, e4, e5, e6, tk, ok.ok.base F, sl⟩
  have nr := re.nr
  have ks : KS B' ⟨C, N, dsc, f0, f1, f2, f3, f4, f5, cc, (X.B.mg "__name__").getD .none, .ref lam⟩ k := by
    refine ⟨by rw [e5]; exact ⟨cr.cls, cr.cell⟩, fun a ha z => ?_, nr⟩
    have q := cr.fr a ha
    rw [e6] at z
    obtain ⟨o, e, _⟩ := sl a z
    obtain ⟨o', e'⟩ := th1 _ _ e
    rw [q] at e'; cases e'
  have hfr : ∀ a ∈ (⟨C, N, dsc, f0, f1, f2, f3, f4, f5, cc, (X.B.mg "__name__").getD .none, .ref lam⟩ : KC).addrs, s.heap.get? a = none := fun a ha => by
    cases e : s.heap.get? a with
    | none => rfl
    | some o => obtain ⟨o', e'⟩ := th1 _ _ e; rw [cr.fr a ha] at e'; cases e'
  have hlam : lam ∉ B'.T := fun z => by
    rw [e6] at z
    obtain ⟨o, e, _⟩ := sl _ z
    rw [frl] at e; cases e
  rw [← e5] at la
  obtain ⟨pm, c', ctv, fb⟩ := lam_fnB la hlam (fun a ha => let ⟨o, e, n⟩ := nr a ha; ⟨o, e, n.nf⟩) sk sc sg snd
  have M : X.M = model B'.prog B'.w := by unfold Cx.M; rw [e1, e2]
  rw [M]
  refine store_val (X := ⟨B', X.A, X.env, s1, X.n, slotsOf X.env ρ, X.κ⟩) (A := X.A) (P := []) F' ⟨ok', fun p hp => nomatch hp⟩ (hp.put _) (.val (.ref C)) fun s' ok'' m => ?_
  refine wpAny_mono (q B' _ lam pm c' ctv cK PK s1 s' re ks hfr rfl fb F' ok'' old1 mi' gg oo) (fun _ _ h => h) fun _ _ h => h
end Mine


open PySem PySem.W PyProof.Rows PySem.W.X
set_option maxHeartbeats 4000000
set_option pp.deepTerms false
set_option pp.deepTerms.threshold 3

namespace Mine
open PySem PySem.Calls PyProof.Rows
theorem sm_of {h : Heap} (x : h.NoSeer) : ∃ o, h.get? sysModules = some o := let ⟨_, ⟨o, _, _, e, _⟩, _⟩ := x.mods; ⟨o, e⟩
theorem MkIn.keep {B : Base} {hE h h' : Heap} {env : Env} {ca : Addr} {fdC : FuncData} {stC : Stmt} {k : KSrc} {ar : Arg} {pr pr' : Pos} {cC PC cL PL : Addr} {v0 : Value} {pk : Option (Addr × Addr)} {used : List (Nat × Nat)} (mi : MkIn B hE h env ca fdC stC k ar pr pr' cC PC cL PL v0 pk used)
    (kk : ∀ b o, h.get? b = some o → h'.get? b = some o) : MkIn B hE h' env ca fdC stC k ar pr pr' cC PC cL PL v0 pk used :=
  { mi with
    fn := mi.fn.keep kk
    wd := mi.wd.keep kk
    kc := mi.kc.keep kk
    hdL := mi.hdL.keeps kk
    tabL := (let ⟨ps, e, r⟩ := mi.tabL; ⟨ps, kk _ _ e, r⟩)
    baL := bi_self mi.baL fun b o _ e => kk b o e }

section
variable {prog : Program} {w : World} {p : Program} {loose : List Str} {mean : ExcName → Option Value} {mg mb : Str → Option Value} {s₁ : Shared}
/-- law, called on a list of ints -/
theorem law_head {T : Top p loose mean mg mb s₁.heap} {fa a : Addr} {vs : List Value} {ns : List Int} {n : Nat} {b : Bool} {c : ClaimW} {cl : Str → Option Addr} {mean' : ExcName → Option Value} {args : List WData}
    {fd : FuncData} {st : Stmt} {ar : Arg} {ρ₀ ρ₁ : List (Str × Ent)} (fb : FnB (base0 prog w T) fa fd) (isd : IsDef fd st) (ha : fArgs st = ⟨[], [ar], Option.none, [], [], Option.none, []⟩) (lo : LayOf (base0 prog w T) [] (fScope st).names ρ₀)
    (hp : Put ρ₀ ar.arg (.val true (.list (ns.map .int))) ρ₁)
    (hl : s₁.heap.get? a = some { cls := .type "list", data := .seq vs.toArray }) (hI : IntsAre vs ns) (hg : s₁.gens = #[]) (hn : n + 1 ≤ 600)
    (hr : ∀ cls, c.raises args cls = false) (hpo : c.post args (.bool b) args = true)
    (run : ∀ (X : Cx) s', X.B = base0 prog w T → X.T = [] → X.n = n → X.κ = closable (fScope st).names → X.sE = s₁ → X.env.locals = s₁.heap.objs.size → X.env.scope = fScope st → X.env.code = fd.code → Fine X → OkP X [] [] ρ₁ s' →
      wpAny X.M X.A (execs (fBody st) X.env) (fun f s'' => f = .ret (.bool b) ∧ OldK s₁.heap s''.heap ∧ s''.gens = s₁.gens ∧ s''.os = s₁.os) NoE s') :
    wpAny (model prog w) callerA (call (.ref fa) [.ref a]) (fun v s' => GoodWG c cl mean' args s₁ (.ok (.ret v)) s') (fun e s' => GoodWG c cl mean' args s₁ (.error e) s') s₁ := by
  have F0 : Fine (cx0 (base0 prog w T) s₁ (n + 1)) := fine0 rfl hn
  have hpl : s₁.heap.PlainList a vs.toArray := ⟨_, hl⟩
  have hbind : bindArgs fd ⟨[.ref a], []⟩ = pure [(ar.arg, .ref a)] := by
    have := bind_plain (fd := fd) (as := [ar]) (vs := [.ref a]) (isd.params.trans ha) isd.defaults rfl (List.nodup_cons.mpr ⟨List.not_mem_nil, List.nodup_nil⟩)
    rw [this]; rfl
  refine wpAny_call (call_fn2 (B := base0 prog w T) (A := callerA) (n := n) (T := []) (W := []) (ds := [(true, .list (ns.map .int))]) (ρp := []) (ρ₀ := ρ₀) (ρ₁ := ρ₁) F0.room (fun _ h => nomatch h) (.refl ..) fb.fn isd.body hbind (isd.closure ▸ CloOk.nil)
    (by rw [isd.scope]; exact lo) (.val hp .nil) (.val (.list hpl List.not_mem_nil (intsAre_reps hI)) .nil) (fun _ h => nomatch h) fun env s' F ok z1 z2 z3 z4 => ?_)
  refine wpAny_mono (run _ s' rfl rfl rfl (by rw [isd.scope]) rfl z4 (z1.trans isd.scope) z2 F ok) (fun f s'' h => ?_) fun _ _ h => h.elim
  obtain ⟨rfl, old, g, o⟩ := h
  exact ⟨.inl ⟨_, _, [], rfl, hr, ReadsW.bool b, hpo, fun _ => ⟨List.nodup_nil, fun _ hm => (nomatch hm)⟩⟩, old, o, .of_eq (g.trans hg)⟩

/-- a law whose first statement is x = cmp_to_key(lambda ..) -/
theorem law_mk {T : Top p loose mean mg mb s₁.heap} {K : Frag} (KX : K.In s₁.heap) {fa aC a : Addr} {vs : List Value} {ns : List Int} {n : Nat} {b : Bool} {c : ClaimW} {cl : Str → Option Addr} {mean' : ExcName → Option Value} {args : List WData}
    {stL stC : Stmt} {k : KSrc} {ar arL : Arg} {pr pr' p0 p1 p2 p3 pos : Pos} {cC PC cL PL : Addr} {s0 : Str} {t0 : Tok} {dL : DefRec}
    {params : Arguments} {body : Expr} {scope : Scope} {x : Str} {rest : List Stmt} {ρ₀ ρ₁ : List (Str × Ent)} {f : Ent → List (Str × Ent)} {pl : Str × Ent}
    (hbody : fBody stL = .Assign [.Name x p0] (.Call (.Name "cmp_to_key" p1) [.Lambda params body scope pos] [] p2) p3 :: rest)
    (haL : fArgs stL = ⟨[], [arL], Option.none, [], [], Option.none, []⟩) (lo : LayOf (base0 prog w T) [] (fScope stL).names ρ₀) (hp : Put ρ₀ arL.arg (.val true (.list (ns.map .int))) ρ₁) (hpx : PutF ρ₁ x f)
    (hv : ∀ p ∈ ρ₁, p.2.simple = true) (hpl : pl ∈ ρ₁) (hkl : (fScope stL).names.lookup pl.1 = some .local) (hgc : (Str.ofString "cmp_to_key", Ent.gl (.ref aC)) ∈ ρ₁)
    (hdef : ∀ env, defaultsOf params env = ([], [])) (hcl : ∀ env, closureFor scope env = pure []) (sk : scope.kind = .function) (sc : scope.isCoroutine = false) (sg : scope.isGenerator = false) (snd : (scope.names.map (·.1)).Nodup)
    (hsw : ∀ env, swapsWith (.Call (.Name "cmp_to_key" p1) [.Lambda params body scope pos] [] p2) (some (.Name x p0)) p3.line env = pure false)
    (hmL : recAt stL ∈ recsOf p) (hnL : (recAt stL).name = "law") (hbL : (recAt stL).body = fBody stL) (hpL : (recAt stL).params = fArgs stL) (hsL : (recAt stL).scope = fScope stL)
    (hkL : (fScope stL).kind = .function) (hcL : (fScope stL).isCoroutine = false) (hgL : (fScope stL).isGenerator = false) (ndL : ((fScope stL).names.map (·.1)).Nodup)
    (cs : CmpSt stC k ar pr pr') (ko : k.Ok) (hm : recAt stC ∈ recsOf p) (hnm : (recAt stC).name = "cmp_to_key") (hb : (recAt stC).body = fBody stC) (hpC : (recAt stC).params = fArgs stC) (hs : (recAt stC).scope = fScope stC)
    (hk : (fScope stC).kind = .function) (hc : (fScope stC).isCoroutine = false) (hg : (fScope stC).isGenerator = false) (nd : ((fScope stC).names.map (·.1)).Nodup)
    (rC : (recsOf p).find? (fun e => e.name == ("cmp_to_key" : Str)) = some (recAt stC)) (tC : tabIn K "cmp_to_key" = some (cC, PC)) (rL : (recsOf p).find? (fun e => e.name == ("law" : Str)) = some dL) (tL : tabIn K "law" = some (cL, PL))
    (q1 : nsIn K cStatics "thirdparty.any" = some none) (q2 : nsIn K mainGlobals "__name__" = some (some (.str s0 t0))) (q3 : ∃ o, s₁.heap.get? sysModules = some o) (q4 : nsIn K mainGlobals "object" = some none)
    (n1 : mainGlobals ≠ PC) (n2 : cStatics ≠ PC) (n3 : mainGlobals ≠ PL) (n4 : cStatics ≠ PL) (n5 : PL ≠ PC)
    (efa : mg "law" = some (.ref fa)) (eaC : mg "cmp_to_key" = some (.ref aC))
    (hl : s₁.heap.get? a = some { cls := .type "list", data := .seq vs.toArray }) (hI : IntsAre vs ns) (hg0 : s₁.gens = #[]) (hn : n + 1 ≤ 600) (hn1 : 1 ≤ n)
    (hr : ∀ cls, c.raises args cls = false) (hpo : c.post args (.bool b) args = true)
    (run : ∀ (X : Cx) (kc : KC) lam qual pm c' ctv, KS X.B kc k → kc.v = .ref lam → FnB X.B lam (kla_fn "<lambda>" qual params body scope [] pm (.ref c') ctv) → Fine X → X.n = n → X.κ = closable (fScope stL).names →
      (∀ x v, GlobIs (base0 prog w T) x v → GlobIs X.B x v) → (∀ a st, DefAt (base0 prog w T) a st → DefAt X.B a st) → (∃ mc, X.B.h₁.Ns cStatics mc ∧ mc "thirdparty.any" = none) →
      Blk X [] (f (.val true (.val (.ref kc.C)))) rest (fun _ _ => False) (Ret X [] .f (.bool b))) :
    wpAny (model prog w) callerA (call (.ref fa) [.ref a]) (fun v s' => GoodWG c cl mean' args s₁ (.ok (.ret v)) s') (fun e s' => GoodWG c cl mean' args s₁ (.error e) s') s₁ := by
  obtain ⟨a2, o, pm, code, doc, e, g, dt, cr⟩ := T.fn _ hmL
  rw [hbL, hpL, hsL] at dt
  rw [hnL] at e
  have ea : fa = a2 := by have := efa.symm.trans e; cases this; rfl
  subst ea
  have cd := law_code KX T.g tL e g dt
  have fb : FnB (base0 prog w T) fa (docDef (recAt stL).name (fArgs stL) (fBody stL) (fScope stL) pm code doc) := ⟨⟨⟨o, g, dt⟩, cr, rfl, rfl, hkL, hcL, hgL, ndL⟩, List.not_mem_nil, fun _ _ => List.not_mem_nil⟩
  refine law_head (fd := docDef (recAt stL).name (fArgs stL) (fBody stL) (fScope stL) pm code doc) (st := stL) (n := n) (b := b) fb ⟨rfl, rfl, rfl, rfl, rfl⟩ haL lo hp hl hI hg0 hn hr hpo fun X s' hB hT hn' hκ hE hloc hsc hcode F ok => ?_
  obtain ⟨ca, fdC, fbC, mi⟩ := mk_start (prog := prog) (w := w) T KX cs ko hm hnm hb hpC hs hk hc hg nd rC tC rL tL q1 q2 q3 q4 n1 n2 n3 n4 n5 X.env (hcode.trans cd)
  have eca : ca = aC := by
    have e1 : mg "cmp_to_key" = some (.ref ca) := mi.glob
    rw [eaC] at e1; cases e1; rfl
  subst eca
  rw [← hB] at mi
  have kk := ok.ok.ext.ext
  rw [hT] at kk
  rw [hE] at kk
  have mi' := mi.keep kk.strict
  have fr : ∀ a ∈ slotsOf X.env ρ₁, s₁.heap.get? a = none := by
    have := slot_new ok.ok hT (by rw [hE, hloc]; exact get_size _)
    rw [hE] at this; exact this
  have hkl' : X.env.kindOf pl.1 = some .local := by unfold Env.kindOf; rw [hsc]; exact hkl
  rw [hbody]
  refine mk_stmt (n := 0) F ok (by omega) mi' (.of_keep kk.strict) fr hv hpl hkl' hgc (hdef _) (hcl _) (by simp) sk sc sg snd hpx hsw fun B' kc lam pm c' ctv cK PK s1 s2 re ks hfr ekc fbl F' ok' old1 mi2 gg oo => ?_
  have q := run ⟨B', X.A, X.env, s1, X.n, slotsOf X.env ρ₁, X.κ⟩ kc lam _ pm c' ctv ks ekc fbl F' hn' hκ (fun x v gl => re.glob (by rw [hB]; exact gl)) (fun a st d => re.defAt (by rw [hB]; exact d)) (by
    obtain ⟨mc, n, e⟩ := mi2.wd.op
    exact ⟨mc, by show B'.h₁.Ns _ _; rw [re.h₁]; exact n, e⟩)
  refine wpAny_mono (q [] s2 ok') (fun fl s'' h => ?_) fun _ _ h => h.elim
  cases fl with
  | next => exact h.elim
  | ret v =>
    have h' : Ret ⟨B', X.A, X.env, s1, X.n, slotsOf X.env ρ₁, X.κ⟩ [] .f (.bool b) v s'' := h
    obtain ⟨k, r, _⟩ := h'
    cases r
    refine ⟨rfl, k.ext.old _ fr old1, k.gens.trans (gg.trans (ok.ok.ext.gens.trans (by rw [hE]))), k.os.trans (oo.trans (ok.ok.ext.os.trans (by rw [hE])))⟩
  | _ => exact h.elim
end
end Mine


open PySem PySem.W PyProof.Rows PySem.W.X
set_option maxHeartbeats 4000000

namespace Mine
open PySem PySem.Calls PyProof.Rows
theorem fr_of {names : List (Str × NameKind)} {b : Bool} (h : (names.all fun p => !(p.2 == NameKind.free) || (b && p.1 == Str.ofString "mycmp")) = true) : ∀ x, (x, NameKind.free) ∈ names → b = true ∧ x = "mycmp" := fun x hx => by
  rw [List.all_eq_true] at h
  have := h _ hx
  simp only [beq_self_eq_true, Bool.not_true, Bool.false_or, Bool.and_eq_true, beq_iff_eq] at this
  exact this
noncomputable def retPos : Stmt → Pos × Pos
  | .Return (some (.Name _ p)) q => (p, q)
  | _ => (default, default)
noncomputable def argOf (st : Stmt) (i : Nat) : Arg := (fArgs st).args.getD i ⟨Str.empty, none, default⟩
/-- where the one line of a comparing method stands -/
structure CPos where
  kk : Nat
  p1 : Pos
  p2 : Pos
  p3 : Pos
  p4 : Pos
  p5 : Pos
  p6 : Pos
  p7 : Pos
  p8 : Pos
  p9 : Pos
noncomputable def cPos : Stmt → CPos
  | .Return (some (.Compare (.Call (.Name _ p1) [.Attribute (.Name _ p2) _ p3, .Attribute (.Name _ p4) _ p5] [] p6) _ [.Constant _ kk p7] p8)) p9 => ⟨kk, p1, p2, p3, p4, p5, p6, p7, p8, p9⟩
  | _ => ⟨0, default, default, default, default, default, default, default, default, default⟩
structure IPos where
  p1 : Pos
  p2 : Pos
  p3 : Pos
  p4 : Pos
noncomputable def iPos : Stmt → IPos
  | .Assign [.Attribute (.Name _ p1) _ p2] (.Name _ p3) p4 => ⟨p1, p2, p3, p4⟩
  | _ => ⟨default, default, default, default⟩
noncomputable def st0 (st : Stmt) : Stmt := (fBody st).getD 0 (.Pass default)
noncomputable def st1 (st : Stmt) : Stmt := (fBody st).getD 1 (.Pass default)
noncomputable def lamP : Stmt → Arguments
  | .Assign _ (.Call _ [.Lambda p _ _ _] _ _) _ => p
  | _ => ⟨[], [], Option.none, [], [], Option.none, []⟩
noncomputable def lamB : Stmt → Expr
  | .Assign _ (.Call _ [.Lambda _ b _ _] _ _) _ => b
  | _ => .Constant .none 0 default
noncomputable def lamS : Stmt → Scope
  | .Assign _ (.Call _ [.Lambda _ _ s _] _ _) _ => s
  | _ => ⟨.function, [], false, false, []⟩
/-- the lambda that was handed to cmp_to_key by the statement st -/
noncomputable def LamIs (B : Base) (v : Value) (st : Stmt) : Prop := ∃ a qual pm c' ctv, v = .ref a ∧ FnB B a (kla_fn "<lambda>" qual (lamP st) (lamB st) (lamS st) [] pm (.ref c') ctv)
theorem LamIs.keep {X : Cx} {W : List Addr} {v : Value} {st : Stmt} (x : LamIs X.B v st) : KeepOk X W v := by
  obtain ⟨a, qual, pm, c', ctv, rfl, fb⟩ := x
  exact keepOk_fn fb
theorem callV_lamIs {X : Cx} {W : List Addr} {v : Value} {st : Stmt} {as : List Arg} {ds : List D} {l : Lv} {d : D} {ρ₀ ρ₁ : List (Str × Ent)} {n : Nat} (x : LamIs X.B v st) (hn : n + 1 ≤ X.n)
    (hp : lamP st = ⟨[], as, Option.none, [], [], Option.none, []⟩) (nd : (as.map (·.arg)).Nodup) (lo : LayOf X.B [] (lamS st).names ρ₀) (pu : Puts ρ₀ (as.map (·.arg)) ds ρ₁)
    (run : ∀ X' : Cx, X'.B = X.B → X'.n = n → X'.T = [] → X'.κ = closable (lamS st).names → Fine X' → Ev X' W ρ₁ l (lamB st) d) : CallV X W v ds l d := by
  obtain ⟨a, qual, pm, c', ctv, rfl, fb⟩ := x
  exact callV_lam hn fb rfl hp rfl rfl nd lo pu run
end Mine


open PySem PySem.W PyProof.Rows PySem.W.X
set_option maxHeartbeats 4000000

namespace Mine
open PySem PySem.Calls PyProof.Rows Builtin
/-! ### keys of two classes -/
section
variable {X : Cx} {W : List Addr} {c c2 : KC} {k k2 : KSrc}
end
end Mine


open PySem PySem.W PyProof.Rows PySem.W.X
set_option maxHeartbeats 4000000
set_option pp.deepTerms false
set_option pp.deepTerms.threshold 3

namespace Mine
open PySem PySem.Calls PyProof.Rows
theorem MkIn.base {B B' : Base} {hE h : Heap} {env : Env} {ca : Addr} {fdC : FuncData} {stC : Stmt} {k : KSrc} {ar : Arg} {pr pr' : Pos} {cC PC cL PL : Addr} {v0 : Value} {pk : Option (Addr × Addr)} {used : List (Nat × Nat)} (mi : MkIn B hE h env ca fdC stC k ar pr pr' cC PC cL PL v0 pk used)
    (e1 : B'.mg = B.mg) (e2 : B'.mb = B.mb) : MkIn B' hE h env ca fdC stC k ar pr pr' cC PC cL PL v0 pk used :=
  { glob := by rw [e1]; exact mi.glob, fn := mi.fn, isd := mi.isd, cs := mi.cs, ko := mi.ko, qn := mi.qn, code := mi.code, wd := by rw [e1, e2]; exact mi.wd, kc := mi.kc, pkE := mi.pkE, ecode := mi.ecode, hdL := mi.hdL, tabL := mi.tabL, baL := by rw [e1]; exact mi.baL, gPL := mi.gPL, sPL := mi.sPL, nP := mi.nP, nPK := mi.nPK, tL := mi.tL, tC := mi.tC, gE := mi.gE, bE := mi.bE, cE := mi.cE }
section
variable {T : List Addr} {h h' : Heap}
theorem slot_out (nr : ∀ a ∈ T, ∃ o, h.get? a = some o ∧ SlotObj o) {a : Addr} {o : Obj} (e : h.get? a = some o) (hd : (∃ vs, o.data = .fields vs) ∨ (∃ fd, o.data = .func fd) ∨ o.data = .plain) : a ∉ T := fun z => by
  obtain ⟨o', e', n⟩ := nr a z
  rw [e] at e'; cases e'
  rcases hd with ⟨vs, d⟩ | ⟨fd, d⟩ | d
  · exact n.nf _ d
  · exact n.nfn _ d
  · exact n.np d
theorem codeRec_sl (x : Ext T h h') (nr : ∀ a ∈ T, ∃ o, h.get? a = some o ∧ SlotObj o) {c : Value} {q : Str} (y : h.CodeRec c q) : h'.CodeRec c q :=
  codeRec_ext y x fun a ha => let ⟨o, e, n⟩ := nr a ha; ⟨o, e, n.nf⟩
theorem codeHd_sl (x : Ext T h h') (nr : ∀ a ∈ T, ∃ o, h.get? a = some o ∧ SlotObj o) {c P : Addr} (y : CodeHd h c P) : CodeHd h' c P := by
  obtain ⟨o, vs, file, tf, flags, tg, inF, text, tt, e, ec, ed, r⟩ := y
  exact ⟨o, vs, file, tf, flags, tg, inF, text, tt, x.keep _ _ (slot_out nr e (.inl ⟨_, ed⟩)) e, ec, ed, r⟩
theorem tab_sl (x : Ext T h h') (nr : ∀ a ∈ T, ∃ o, h.get? a = some o ∧ SlotObj o) {P : Addr} {ps : Array Value} (e : h.get? P = some (tabObj ps)) : h'.get? P = some (tabObj ps) :=
  x.keep _ _ (slot_out nr e (.inl ⟨_, rfl⟩)) e
theorem ba_sl (x : Ext T h h') (nr : ∀ a ∈ T, ∃ o, h.get? a = some o ∧ SlotObj o) {mg : Str → Option Value} {P : Addr} (y : h.BuiltinsAt mg P) : h'.BuiltinsAt mg P :=
  let ⟨bm, o, e, n1, n2, n3, g, c, r, d⟩ := y; ⟨bm, o, e, n1, n2, n3, x.keep _ _ (slot_out nr g (.inr (.inr d))) g, c, r, d⟩
theorem kCode_sl (x : Ext T h h') (nr : ∀ a ∈ T, ∃ o, h.get? a = some o ∧ SlotObj o) {P : Addr} {pos : Pos} {qual : Str} {qK : Nat → Nat → Str} {pk : Option (Addr × Addr)} (y : KCode h P pos qual qK pk) : KCode h' P pos qual qK pk := by
  obtain ⟨qs, e1, t1, r⟩ := y
  refine ⟨qs, tab_sl x nr e1, t1, ?_⟩
  cases pk with
  | none => exact r
  | some z =>
    obtain ⟨r1, r2, r3, ⟨ps, e2, t2, hq⟩, r5⟩ := r
    exact ⟨r1, codeRec_sl x nr r2, codeHd_sl x nr r3, ⟨ps, tab_sl x nr e2, t2, fun p cv z => let ⟨c', a, b, c⟩ := hq p cv z; ⟨c', a, b, codeRec_sl x nr c⟩⟩, r5⟩
theorem MkIn.ext {B : Base} {hE : Heap} {env : Env} {ca : Addr} {fdC : FuncData} {stC : Stmt} {k : KSrc} {ar : Arg} {pr pr' : Pos} {cC PC cL PL : Addr} {v0 : Value} {pk : Option (Addr × Addr)} {used : List (Nat × Nat)} (mi : MkIn B hE h env ca fdC stC k ar pr pr' cC PC cL PL v0 pk used)
    (x : Ext T h h') (nr : ∀ a ∈ T, ∃ o, h.get? a = some o ∧ SlotObj o) (fr : ∀ a ∈ T, hE.get? a = none) : MkIn B hE h' env ca fdC stC k ar pr pr' cC PC cL PL v0 pk used := by
  have out : ∀ {a}, (∃ o, hE.get? a = some o) → a ∉ T := fun ⟨o, e⟩ z => by rw [fr _ z] at e; cases e
  exact { mi with
    fn := { mi.fn with obj := (let ⟨o, e, d⟩ := mi.fn.obj; ⟨o, x.keep _ _ (slot_out nr e (.inr (.inl ⟨_, d⟩))) e, d⟩), code := codeRec_sl x nr mi.fn.code }
    wd := { mi.wd with g := ns_ext x mi.wd.g (out mi.gE), b := ns_ext x mi.wd.b (out mi.bE), ba := ba_sl x nr mi.wd.ba, sm := (let ⟨o, e⟩ := mi.wd.sm; x.there _ _ e), lim := (let ⟨mc, n, e⟩ := mi.wd.lim; ⟨mc, ns_ext x n (out mi.cE), e⟩), op := (let ⟨mc, n, e⟩ := mi.wd.op; ⟨mc, ns_ext x n (out mi.cE), e⟩), hd := codeHd_sl x nr mi.wd.hd }
    kc := kCode_sl x nr mi.kc
    hdL := codeHd_sl x nr mi.hdL
    tabL := (let ⟨ps, e, r⟩ := mi.tabL; ⟨ps, tab_sl x nr e, r⟩)
    baL := ba_sl x nr mi.baL }
end
section
variable {prog : Program} {w : World} {p : Program} {loose : List Str} {mean : ExcName → Option Value} {mg mb : Str → Option Value} {s₁ : Shared}
end
end Mine


local macro_rules | `(tactic| walk_at "m_mem") => `(tactic| first | with_reducible exact List.mem_cons_self | (with_reducible apply List.mem_cons_of_mem; walk_at "m_mem"))
local macro_rules | `(tactic| walk_at "m_put") => `(tactic| first | with_reducible exact Mine.Put.here rfl | (with_reducible apply Mine.Put.there; walk_at "m_put"))
local macro_rules | `(tactic| walk_at "m_putF") => `(tactic| first | with_reducible exact Mine.PutF.here rfl | (with_reducible apply Mine.PutF.there; walk_at "m_putF"))
local macro_rules | `(tactic| walk_at "m_fgt") => `(tactic| first | exact Mine.Fgt.nil | (refine Mine.Fgt.un rfl ?_; walk_at "m_fgt") | (refine Mine.Fgt.eq rfl ?_; walk_at "m_fgt"))
open PySem PySem.W PyProof.Rows PySem.W.X

namespace Mine
open PySem PySem.Calls PyProof.Rows


noncomputable abbrev pg := PySem.Challenge.pw_dm0116_12
noncomputable abbrev stC : Stmt := stAt pg 3
noncomputable def kS : KSrc := (kOf (st0 stC)).get (by rfl)
theorem isM_i : IsM kS kS.stI "__init__" false := ⟨fun _ => rfl, rfl, rfl, fun _ => rfl, fr_of (by decide +kernel), fun _ => by kernel_rfl, by kernel_rfl, by kernel_rfl⟩
theorem isM_lt : IsM kS kS.stLt "__lt__" true := ⟨fun _ => rfl, rfl, rfl, fun _ => rfl, fr_of (by decide +kernel), fun _ => by kernel_rfl, by kernel_rfl, by kernel_rfl⟩
theorem isM_gt : IsM kS kS.stGt "__gt__" true := ⟨fun _ => rfl, rfl, rfl, fun _ => rfl, fr_of (by decide +kernel), fun _ => by kernel_rfl, by kernel_rfl, by kernel_rfl⟩
theorem isM_eq : IsM kS kS.stEq "__eq__" true := ⟨fun _ => rfl, rfl, rfl, fun _ => rfl, fr_of (by decide +kernel), fun _ => by kernel_rfl, by kernel_rfl, by kernel_rfl⟩
theorem isM_le : IsM kS kS.stLe "__le__" true := ⟨fun _ => rfl, rfl, rfl, fun _ => rfl, fr_of (by decide +kernel), fun _ => by kernel_rfl, by kernel_rfl, by kernel_rfl⟩
theorem isM_ge : IsM kS kS.stGe "__ge__" true := ⟨fun _ => rfl, rfl, rfl, fun _ => rfl, fr_of (by decide +kernel), fun _ => by kernel_rfl, by kernel_rfl, by kernel_rfl⟩
theorem kS_ok : kS.Ok := ⟨isM_i, isM_lt, isM_gt, isM_eq, isM_le, isM_ge, rfl, by kernel_rfl, by kernel_rfl, by kernel_rfl, by kernel_rfl, by kernel_rfl, by kernel_rfl, by kernel_rfl, by kernel_rfl, by kernel_rfl, fun x hx => (fr_of (b := true) (by decide +kernel) x hx).2, fun _ => by kernel_rfl⟩
theorem cmp_st : CmpSt stC kS (argOf stC 0) (retPos (st1 stC)).1 (retPos (st1 stC)).2 := ⟨rfl, rfl, rfl, rfl⟩
theorem init_st : InitSt kS.stI (argOf kS.stI 0) (argOf kS.stI 1) (iPos (st0 kS.stI)).p1 (iPos (st0 kS.stI)).p2 (iPos (st0 kS.stI)).p3 (iPos (st0 kS.stI)).p4 := ⟨⟨rfl, by decide +kernel, rfl, rfl, rfl, by decide +kernel⟩, rfl, rfl, rfl, rfl⟩
theorem m_lt : CmpM kS.stLt .Lt (argOf kS.stLt 0) (argOf kS.stLt 1) (cPos (st0 kS.stLt)).kk (cPos (st0 kS.stLt)).p1 (cPos (st0 kS.stLt)).p2 (cPos (st0 kS.stLt)).p3 (cPos (st0 kS.stLt)).p4 (cPos (st0 kS.stLt)).p5 (cPos (st0 kS.stLt)).p6 (cPos (st0 kS.stLt)).p7 (cPos (st0 kS.stLt)).p8 (cPos (st0 kS.stLt)).p9 := ⟨⟨rfl, by decide +kernel, rfl, rfl, rfl, by decide +kernel⟩, rfl, rfl, rfl, rfl⟩
theorem m_eq : CmpM kS.stEq .Eq (argOf kS.stEq 0) (argOf kS.stEq 1) (cPos (st0 kS.stEq)).kk (cPos (st0 kS.stEq)).p1 (cPos (st0 kS.stEq)).p2 (cPos (st0 kS.stEq)).p3 (cPos (st0 kS.stEq)).p4 (cPos (st0 kS.stEq)).p5 (cPos (st0 kS.stEq)).p6 (cPos (st0 kS.stEq)).p7 (cPos (st0 kS.stEq)).p8 (cPos (st0 kS.stEq)).p9 := ⟨⟨rfl, by decide +kernel, rfl, rfl, rfl, by decide +kernel⟩, rfl, rfl, rfl, rfl⟩
noncomputable abbrev stL : Stmt := stAt pg 6
structure Lw (B : Base) (aG aE aH aC : Addr) : Prop where
  len : GlobIs B (Str.ofString "len") (.builtin "len")
  min : GlobIs B (Str.ofString "min") (.builtin "min")
  max : GlobIs B (Str.ofString "max") (.builtin "max")
  range : GlobIs B (Str.ofString "range") (.type "range")
  list : GlobIs B (Str.ofString "list") (.type "list")
  type : GlobIs B (Str.ofString "type") (.type "type")
  ni : GlobIs B (Str.ofString "NotImplemented") .notImplemented
  gC : GlobIs B (Str.ofString "cmp_to_key") (.ref aC)
  gG : GlobIs B (Str.ofString "_gt_from_lt") (.ref aG)
  gE : GlobIs B (Str.ofString "_ge_from_lt") (.ref aE)
  gH : GlobIs B (Str.ofString "_law_heaps") (.ref aH)
  dG : DefAt B aG (stAt pg 1)
  dE : DefAt B aE (stAt pg 2)
  dH : DefAt B aH (stAt pg 5)
theorem Lw.re {B B' : Base} {aG aE aH aC : Addr} (G : Lw B aG aE aH aC) (g : ∀ x v, GlobIs B x v → GlobIs B' x v) (d : ∀ a st, DefAt B a st → DefAt B' a st) : Lw B' aG aE aH aC :=
  ⟨g _ _ G.len, g _ _ G.min, g _ _ G.max, g _ _ G.range, g _ _ G.list, g _ _ G.type, g _ _ G.ni, g _ _ G.gC, g _ _ G.gG, g _ _ G.gE, g _ _ G.gH, d _ _ G.dG, d _ _ G.dE, d _ _ G.dH⟩
/-- the class of keys -/
structure KW (B : Base) (c : KC) : Prop where
  kin : KIn B c kS
  lam : LamIs B c.v (st0 stL)
  hop : ∃ mc, B.h₁.Ns cStatics mc ∧ mc "thirdparty.any" = none

noncomputable def heapsTo (m : Nat) (ns : List Int) : Nat → List Int
  | 0 => List.replicate (Nat.min ns.length m) 0
  | i + 1 => (heapsTo m ns i).set (i % m) ((heapsTo m ns i).getD (i % m) 0 + ns.getD i 0)
theorem heapsTo_len (m : Nat) (ns : List Int) : ∀ i, (heapsTo m ns i).length = Nat.min ns.length m
  | 0 => by simp [heapsTo]
  | i + 1 => by rw [heapsTo, List.length_set, heapsTo_len m ns i]
set_option maxHeartbeats 1000000 in
theorem heaps_spec {X : Cx} {W : List Addr} {aG aE aH aC : Addr} (G : Lw X.B aG aE aH aC) (hn : 1 ≤ X.n) (ns : List Int) (hl : ns.length ≤ 63) : CallV X W (.ref aH) [.list (ns.map .int)] .f (.list ((heapsTo 10 ns ns.length).map .int)) := by
  refine callV_def (n := 0) hn G.dH rfl (by decide +kernel) (.loc (.loc (.loc (.glob G.min (.glob G.len (.glob G.range .nil)))))) (.cons (e := .tmp true _) (by walk_at "m_put") rfl .nil) ?_
  intro X' hB hn' hT hκ F wal
  have hlen : (ns.map D.int).length ≤ 1000000 := by rw [List.length_map]; omega
  refine assign_own (ns := heapsTo 10 ns 0) F ?_ (by walk_at "m_putF") fun h => ?_
  · refine Ev.cast (ev_rep (ev_list (evs_cons (Ev.flat ev_int) evs_nil)) (ev_call F (by walk_at "m_mem") (evTs_cons (ev_call F (by walk_at "m_mem") (evTs_cons (ev_tmp F (by walk_at "m_mem")) evTs_nil) (callV_len hlen) keepOk_builtin) (evTs_cons ev_int evTs_nil)) callV_min keepOk_builtin) ?_ ?_) ?_
    · rw [List.length_map]; split <;> omega
    · rw [List.length_map]; split <;> omega
    · rw [List.length_map]
      show D.list _ = D.list _
      rw [heapsTo, List.map_replicate]
      congr 2
      have : Nat.min ns.length 10 = min ns.length 10 := rfl
      rw [this]
      split <;> omega
  · refine for_range F (fun i => [(Str.ofString "script", Ent.tmp true (.list (ns.map .int))), (Str.ofString "heaps", Ent.own h (heapsTo 10 ns i)), (Str.ofString "place", Ent.un), (Str.ofString "min", Ent.gl (.builtin "min")), (Str.ofString "len", Ent.gl (.builtin "len")), (Str.ofString "range", Ent.gl (.type "range"))])
      (src_range1 F (by walk_at "m_mem") (ev_call F (by walk_at "m_mem") (evTs_cons (ev_tmp F (by walk_at "m_mem")) evTs_nil) (callV_len hlen) keepOk_builtin) (by omega) (by rw [List.length_map]; omega)) (by walk_at "m_fgt") ?_ ?_
    · intro i hi
      rw [List.length_map] at hi
      have hi' : i < ns.length := by omega
      have hlen4 := heapsTo_len 10 ns i
      have hmin : Nat.min ns.length 10 = min ns.length 10 := rfl
      have hm : ((0 : Int) + (i : Int)).fmod 10 = ((i % 10 : Nat) : Int) := by
        rw [Int.fmod_eq_emod_of_nonneg _ (by decide)]; omega
      have hlt : i % 10 < (heapsTo 10 ns i).length := by rw [hlen4, hmin]; omega
      refine ⟨_, tgt_name F (by walk_at "m_put"), aug_item (y := (heapsTo 10 ns i).getD (i % 10) 0) (b := ns.getD i 0) F (by walk_at "m_mem") (Ev.cast (ev_mod (ev_val F (by walk_at "m_mem")) ev_int (by decide)) (congrArg D.int hm)) (by omega) ?_ (by omega)
        (Ev.cast (ev_item (ev_tmp F (by walk_at "m_mem")) (ev_val F (by walk_at "m_mem")) (d := .int (ns.getD i 0)) ?_ hlen) rfl) (fun Q s t u q => iadd_int (q _ _)) (by walk_at "m_put") (blk_fgt (by walk_at "m_fgt"))⟩
      · rw [Int.toNat_natCast]; simp [hlt]
      · unfold itemAt
        rw [if_pos (by omega), List.getElem?_map]
        have : ((0 : Int) + (i : Int)).toNat = i := by omega
        rw [this]
        simp [hi']
    · have e : ((((ns.map D.int).length : Nat) : Int) - 0).toNat = ns.length := by rw [List.length_map]; omega
      rw [e]
      exact ret_own F (by walk_at "m_mem") wal

/-- the comparison -/
noncomputable abbrev cmpF (x y : Int) : Int := x.fdiv 2 - y.fdiv 2
theorem cmp_spec {X : Cx} {W : List Addr} {c : KC} (K : KW X.B c) (hn : 1 ≤ X.n) (x y : Int) : CallV X W c.v [.int x, .int y] .f (.int (cmpF x y)) := by
  refine callV_lamIs (n := 0) K.lam hn rfl (by decide +kernel) (.loc (.loc .nil)) (.cons (e := .val true _) (by walk_at "m_put") rfl (.cons (e := .val true _) (by walk_at "m_put") rfl .nil)) fun X' hB hn' hT hκ F => ?_
  exact ev_sub (ev_fdiv (ev_val F (by walk_at "m_mem")) ev_int (by decide) (by decide)) (ev_fdiv (ev_val F (by walk_at "m_mem")) ev_int (by decide) (by decide))
noncomputable abbrev keyD (c : KC) (x : Int) : D := .key c.C (.int x)
theorem lt_spec {X : Cx} {W : List Addr} {c : KC} (K : KW X.B c) (hn : 2 ≤ X.n) (x y : Int) : CallV X W (.ref c.f1) [keyD c x, keyD c y] .f (.bool (decide (cmpF x y < 0))) :=
  callV_cmp (n := 1) K.kin hn (fun h x => x.1.lt) m_lt rfl rfl (fun X' hB hn' => cmp_spec (hB ▸ K) (by omega) x y) (fun X' hB => LamIs.keep (st := st0 stL) (hB ▸ K.lam)) (fun X' => cmp_lt) fun _ => rfl
theorem eq_spec {X : Cx} {W : List Addr} {c : KC} (K : KW X.B c) (hn : 2 ≤ X.n) (x y : Int) : CallV X W (.ref c.f3) [keyD c x, keyD c y] .f (.bool (cmpF x y == 0)) :=
  callV_cmp (n := 1) K.kin hn (fun h x => x.1.eq) m_eq rfl rfl (fun X' hB hn' => cmp_spec (hB ▸ K) (by omega) x y) (fun X' hB => LamIs.keep (st := st0 stL) (hB ▸ K.lam)) (fun X' => cmp_eq) fun _ => rfl
/-- _gt_from_lt of keys -/
theorem gt_spec {X : Cx} {W : List Addr} {aG aE aH aC : Addr} {c : KC} (G : Lw X.B aG aE aH aC) (K : KW X.B c) (hn : 4 ≤ X.n) (x y : Int) : CallV X W (.ref aG) [keyD c x, keyD c y] .f (.bool (!decide (cmpF x y < 0) && !(cmpF x y == 0))) := by
  refine callV_def (n := 3) hn G.dG rfl (by decide +kernel) (.loc (.loc (.loc (.glob G.type (.glob G.ni .nil))))) (.cons (e := .val true _) (by walk_at "m_put") rfl (.cons (e := .val true _) (by walk_at "m_put") rfl .nil)) ?_
  intro X' hB hn' hT hκ F wal
  have K' : KW X'.B c := hB ▸ K
  refine assign F (Ev.flat (ev_meth F (ev_call F (by walk_at "m_mem") (evTs_cons (ev_val F (by walk_at "m_mem")) evTs_nil) callV_typeKey keepOk_type) (getM_lt' K'.kin K'.hop) (evTs_cons (ev_val F (by walk_at "m_mem")) (evTs_cons (ev_val F (by walk_at "m_mem")) evTs_nil)) (lt_spec K' (by omega) x y) (keepOk_meth (f := c.f1) K'.kin fun h x => x.1.lt))) (by walk_at "m_put") ?_
  refine blk_if_ret (tst_cmp F (ev_val F (by walk_at "m_mem")) (ev_gl F (by walk_at "m_mem")) cmp_isNI) (fun h => by cases h) fun _ => ?_
  exact ret_flat (ev_and2 (ev_not (ev_val F (by walk_at "m_mem"))) fun _ => ev_cmp F (ev_val F (by walk_at "m_mem")) (ev_val F (by walk_at "m_mem")) (cmpV_ne K'.kin (by omega) fun X2 hB2 hn2 => eq_spec (hB2 ▸ K') (by omega) x y))
/-- _ge_from_lt of keys -/
theorem ge_spec {X : Cx} {W : List Addr} {aG aE aH aC : Addr} {c : KC} (G : Lw X.B aG aE aH aC) (K : KW X.B c) (hn : 4 ≤ X.n) (x y : Int) : CallV X W (.ref aE) [keyD c x, keyD c y] .f (.bool (!decide (cmpF x y < 0))) := by
  refine callV_def (n := 3) hn G.dE rfl (by decide +kernel) (.loc (.loc (.loc (.glob G.type (.glob G.ni .nil))))) (.cons (e := .val true _) (by walk_at "m_put") rfl (.cons (e := .val true _) (by walk_at "m_put") rfl .nil)) ?_
  intro X' hB hn' hT hκ F wal
  have K' : KW X'.B c := hB ▸ K
  refine assign F (Ev.flat (ev_meth F (ev_call F (by walk_at "m_mem") (evTs_cons (ev_val F (by walk_at "m_mem")) evTs_nil) callV_typeKey keepOk_type) (getM_lt' K'.kin K'.hop) (evTs_cons (ev_val F (by walk_at "m_mem")) (evTs_cons (ev_val F (by walk_at "m_mem")) evTs_nil)) (lt_spec K' (by omega) x y) (keepOk_meth (f := c.f1) K'.kin fun h x => x.1.lt))) (by walk_at "m_put") ?_
  refine blk_if_ret (tst_cmp F (ev_val F (by walk_at "m_mem")) (ev_gl F (by walk_at "m_mem")) cmp_isNI) (fun h => by cases h) fun _ => ?_
  exact ret_flat (ev_not (ev_val F (by walk_at "m_mem")))
end Mine



namespace Mine
open PySem PyProof.Rows

/-! ### runs of neighbours and their first least -/
noncomputable def lst (h : Nat → Int) (s : Nat) : Nat → Nat
  | 0 => s
  | k + 1 => if h (s + k) < h (lst h s k) then s + k else lst h s k
noncomputable def bkF (h : Nat → Int) (p : Nat) : Nat → Nat
  | 0 => 0
  | b + 1 => if h p < h b then bkF h p b else b + 1
noncomputable def onF (h : Nat → Int) (p : Nat) : Nat → Nat → Nat
  | o, 0 => o
  | o, m + 1 => if h p ≤ h (o + 1) then onF h p (o + 1) m else o
noncomputable abbrev bk (h : Nat → Int) (p : Nat) : Nat := bkF h p p
noncomputable abbrev on' (h : Nat → Int) (n p : Nat) : Nat := onF h p p (n - 1 - p)
noncomputable def bF (h : Nat → Int) (s k p : Nat) : Nat := if bk h p < s then bk h p else if bk h p = s ∧ p < s + k then s else p
noncomputable def eF (h : Nat → Int) (n s k p : Nat) : Nat := if bk h p < s then on' h n p else if bk h p = s ∧ p < s + k then min (s + k - 1) (on' h n p) else p

theorem bkF_le (h : Nat → Int) (p : Nat) : ∀ b, bkF h p b ≤ b
  | 0 => Nat.le_refl _
  | b + 1 => by
    unfold bkF; split
    · have := bkF_le h p b; omega
    · exact Nat.le_refl _
theorem bkF_gt (h : Nat → Int) (p : Nat) : ∀ b j, bkF h p b ≤ j → j < b → h p < h j
  | 0, j, _, h2 => by omega
  | b + 1, j, h1, h2 => by
    unfold bkF at h1
    split at h1
    · rename_i hh
      by_cases e : j = b
      · subst e; exact hh
      · exact bkF_gt h p b j h1 (by omega)
    · omega
theorem bkF_min (h : Nat → Int) (p s : Nat) : ∀ b, s ≤ b → (∀ j, s ≤ j → j < b → h p < h j) → bkF h p b ≤ s
  | 0, h1, _ => by unfold bkF; omega
  | b + 1, h1, h2 => by
    by_cases e : s = b + 1
    · subst e; exact bkF_le h p _
    · unfold bkF
      rw [if_pos (h2 b (by omega) (by omega))]
      exact bkF_min h p s b (by omega) fun j a c => h2 j a (by omega)
theorem bk_le (h : Nat → Int) (p : Nat) : bk h p ≤ p := bkF_le h p p
theorem bk_gt (h : Nat → Int) (p j : Nat) (h1 : bk h p ≤ j) (h2 : j < p) : h p < h j := bkF_gt h p p j h1 h2
theorem bk_iff (h : Nat → Int) (p s : Nat) (hs : s ≤ p) : bk h p ≤ s ↔ ∀ j, s ≤ j → j < p → h p < h j :=
  ⟨fun e j a c => bk_gt h p j (by omega) c, fun e => bkF_min h p s p hs e⟩
theorem onF_ge (h : Nat → Int) (p : Nat) : ∀ m o, o ≤ onF h p o m ∧ onF h p o m ≤ o + m
  | 0, o => by simp [onF]
  | m + 1, o => by
    unfold onF; split
    · have := onF_ge h p m (o + 1); omega
    · omega
theorem onF_all (h : Nat → Int) (p : Nat) : ∀ m o j, o < j → j ≤ onF h p o m → h p ≤ h j
  | 0, o, j, h1, h2 => by simp [onF] at h2; omega
  | m + 1, o, j, h1, h2 => by
    unfold onF at h2
    split at h2
    · rename_i hh
      by_cases e : j = o + 1
      · subst e; exact hh
      · exact onF_all h p m (o + 1) j (by omega) h2
    · omega
theorem onF_max (h : Nat → Int) (p e : Nat) : ∀ m o, o ≤ e → e ≤ o + m → (∀ j, o < j → j ≤ e → h p ≤ h j) → e ≤ onF h p o m
  | 0, o, h1, h2, _ => by simp [onF]; omega
  | m + 1, o, h1, h2, h3 => by
    by_cases q : e = o
    · subst q; exact (onF_ge h p _ _).1
    · unfold onF
      rw [if_pos (h3 (o + 1) (by omega) (by omega))]
      exact onF_max h p e m (o + 1) (by omega) (by omega) fun j a c => h3 j (by omega) c
theorem on_iff (h : Nat → Int) (n p e : Nat) (h1 : p ≤ e) (h2 : e < n) : e ≤ on' h n p ↔ ∀ j, p < j → j ≤ e → h p ≤ h j :=
  ⟨fun q j a c => onF_all h p (n - 1 - p) p j a (by have q : e ≤ onF h p p (n - 1 - p) := q; omega), fun q => onF_max h p e _ _ h1 (by omega) q⟩
theorem on_lt (h : Nat → Int) (n p : Nat) (hp : p < n) : p ≤ on' h n p ∧ on' h n p < n := by
  have a := onF_ge h p (n - 1 - p) p
  have e : on' h n p = onF h p p (n - 1 - p) := rfl
  omega

theorem lst_in (h : Nat → Int) (s : Nat) : ∀ k, s ≤ lst h s (k + 1) ∧ lst h s (k + 1) ≤ s + k
  | 0 => by unfold lst; split <;> simp [lst]
  | k + 1 => by
    have := lst_in h s k
    rw [lst]; split <;> omega
theorem lst_one (h : Nat → Int) (s : Nat) : lst h s 1 = s := by have := lst_in h s 0; rw [Nat.zero_add] at this; omega
theorem lst_ge (h : Nat → Int) (s : Nat) : ∀ k j, s ≤ j → j ≤ s + k → h (lst h s (k + 1)) ≤ h j
  | 0, j, h1, h2 => by
    have : j = s := by omega
    subst this; rw [lst_one]; exact Int.le_refl _
  | k + 1, j, h1, h2 => by
    rw [lst]
    have e : s + (k + 1) = s + k + 1 := by omega
    split
    · rename_i hh
      by_cases q : j = s + (k + 1)
      · subst q; exact Int.le_refl _
      · have := lst_ge h s k j h1 (by omega); omega
    · rename_i hh
      by_cases q : j = s + (k + 1)
      · subst q; omega
      · exact lst_ge h s k j h1 (by omega)
theorem lst_gt (h : Nat → Int) (s : Nat) : ∀ k j, s ≤ j → j < lst h s (k + 1) → h (lst h s (k + 1)) < h j
  | 0, j, h1, h2 => by rw [lst_one] at h2; omega
  | k + 1, j, h1, h2 => by
    rw [lst] at h2 ⊢
    split at h2
    · rename_i hh
      rw [if_pos hh]
      have := lst_ge h s k j h1 (by omega); omega
    · rename_i hh
      rw [if_neg hh]
      exact lst_gt h s k j h1 h2
/-- the first least of a run -/
theorem lst_is (h : Nat → Int) (n s k p : Nat) (hk : s + k < n) (h1 : bk h p ≤ s) (h2 : s ≤ p) (h3 : p ≤ s + k) (h4 : s + k ≤ on' h n p) : lst h s (k + 1) = p := by
  have a := (bk_iff h p s h2).mp h1
  have b := (on_iff h n p (s + k) h3 hk).mp h4
  obtain ⟨c1, c2⟩ := lst_in h s k
  rcases Nat.lt_trichotomy (lst h s (k + 1)) p with q | q | q
  · have := a _ c1 q
    have := lst_ge h s k p h2 h3; omega
  · exact q
  · have := b _ q c2
    have := lst_gt h s k p h2 q; omega
theorem lst_bk (h : Nat → Int) (s k : Nat) : bk h (lst h s (k + 1)) ≤ s := (bk_iff h _ s (lst_in h s k).1).mpr fun j a c => lst_gt h s k j a c
theorem lst_on (h : Nat → Int) (n s k : Nat) (hk : s + k < n) : s + k ≤ on' h n (lst h s (k + 1)) := (on_iff h n _ (s + k) (lst_in h s k).2 hk).mpr fun j a c => lst_ge h s k j (by have := lst_in h s k; omega) c

theorem bF_step (h : Nat → Int) (n s k p : Nat) (hk : s + k < n) (hp : p < n) : bF h s (k + 1) p = if p = lst h s (k + 1) then min (bF h s k p) s else bF h s k p := by
  have hin := lst_in h s k
  have hb := lst_bk h s k
  have hle := bk_le h p
  by_cases e : p = lst h s (k + 1)
  · rw [if_pos e]
    rw [← e] at hin hb
    unfold bF
    have hb : bk h p ≤ s := hb
    by_cases q : bk h p < s
    · have q : bk h p < s := q
      rw [if_pos q, if_pos q]; omega
    · have q : ¬ bk h p < s := q
      rw [if_neg q, if_neg q, if_pos ⟨by show bk h p = s; omega, by omega⟩]
      split <;> omega
  · rw [if_neg e]
    unfold bF
    by_cases q : bk h p < s
    · rw [if_pos q, if_pos q]
    · rw [if_neg q, if_neg q]
      by_cases q1 : bk h p = s ∧ p < s + (k + 1)
      · rw [if_pos q1]
        by_cases q2 : p < s + k
        · rw [if_pos ⟨q1.1, q2⟩]
        · exact absurd (lst_is h n s k p hk (by omega) (by have := q1.1; omega) (by omega) (by have := on_lt h n p hp; omega)).symm e
      · rw [if_neg q1, if_neg (fun z => q1 ⟨z.1, by omega⟩)]
theorem eF_step (h : Nat → Int) (n s k p : Nat) (hk : s + k < n) (hp : p < n) : eF h n s (k + 1) p = if p = lst h s (k + 1) then max (eF h n s k p) (s + k) else eF h n s k p := by
  have hin := lst_in h s k
  have hb := lst_bk h s k
  have ho := lst_on h n s k hk
  have hle := bk_le h p
  have hol := on_lt h n p hp
  by_cases e : p = lst h s (k + 1)
  · rw [if_pos e]
    rw [← e] at hin hb ho
    unfold eF
    by_cases q : bk h p < s
    · rw [if_pos q, if_pos q]; omega
    · rw [if_neg q, if_neg q, if_pos ⟨by omega, by omega⟩]
      split <;> omega
  · rw [if_neg e]
    unfold eF
    by_cases q : bk h p < s
    · rw [if_pos q, if_pos q]
    · rw [if_neg q, if_neg q]
      by_cases q1 : bk h p = s ∧ p < s + (k + 1)
      · rw [if_pos q1]
        have hbs : bk h p = s := q1.1
        have hno : ¬ s + k ≤ on' h n p := fun z => e (lst_is h n s k p hk (by omega) (by omega) (by omega) z).symm
        rw [if_pos ⟨q1.1, by omega⟩]; omega
      · rw [if_neg q1, if_neg (fun z => q1 ⟨z.1, by omega⟩)]
theorem bF_zero (h : Nat → Int) (p : Nat) : bF h 0 0 p = p := by
  unfold bF; rw [if_neg (by omega), if_neg (by omega)]
theorem eF_zero (h : Nat → Int) (n p : Nat) : eF h n 0 0 p = p := by
  unfold eF; rw [if_neg (by omega), if_neg (by omega)]
theorem bF_next (h : Nat → Int) (n s p : Nat) (hs : s < n) (hp : p < n) : bF h s (n - s) p = bF h (s + 1) 0 p := by
  unfold bF
  have hle := bk_le h p
  by_cases q : bk h p < s
  · rw [if_pos q, if_pos (by omega)]
  · rw [if_neg q]
    by_cases q1 : bk h p = s
    · rw [if_pos ⟨q1, by omega⟩, if_pos (by omega)]; omega
    · rw [if_neg (fun z => q1 z.1), if_neg (by omega), if_neg (by omega)]
theorem eF_next (h : Nat → Int) (n s p : Nat) (hs : s < n) (hp : p < n) : eF h n s (n - s) p = eF h n (s + 1) 0 p := by
  have hol := on_lt h n p hp
  unfold eF
  have hle := bk_le h p
  by_cases q : bk h p < s
  · rw [if_pos q, if_pos (by omega)]
  · rw [if_neg q]
    by_cases q1 : bk h p = s
    · rw [if_pos ⟨q1, by omega⟩, if_pos (by omega)]; omega
    · rw [if_neg (fun z => q1 z.1), if_neg (by omega), if_neg (by omega)]
theorem bF_end (h : Nat → Int) (n p : Nat) (hp : p < n) : bF h n 0 p = bk h p := by
  have := bk_le h p
  unfold bF; rw [if_pos (by show bk h p < n; omega)]
theorem eF_end (h : Nat → Int) (n p : Nat) (hp : p < n) : eF h n n 0 p = on' h n p := by
  have := bk_le h p
  unfold eF; rw [if_pos (by show bk h p < n; omega)]

/-- as lists -/
noncomputable def bL (h : Nat → Int) (n s k : Nat) : List Int := (List.range n).map fun p => ((bF h s k p : Nat) : Int)
noncomputable def eL (h : Nat → Int) (n s k : Nat) : List Int := (List.range n).map fun p => ((eF h n s k p : Nat) : Int)
theorem bL_len (h : Nat → Int) (n s k : Nat) : (bL h n s k).length = n := by simp [bL]
theorem eL_len (h : Nat → Int) (n s k : Nat) : (eL h n s k).length = n := by simp [eL]
theorem bL_get (h : Nat → Int) (n s k p : Nat) (hp : p < n) : (bL h n s k)[p]? = some ((bF h s k p : Nat) : Int) := by simp [bL, hp]
theorem eL_get (h : Nat → Int) (n s k p : Nat) (hp : p < n) : (eL h n s k)[p]? = some ((eF h n s k p : Nat) : Int) := by simp [eL, hp]
theorem bL_set (h : Nat → Int) (n s k : Nat) (hk : s + k < n) : (bL h n s k).set (lst h s (k + 1)) ((min (bF h s k (lst h s (k + 1))) s : Nat) : Int) = bL h n s (k + 1) := by
  apply List.ext_getElem?
  intro p
  by_cases hp : p < n
  · rw [bL_get _ _ _ _ _ hp, bF_step h n s k p hk hp, List.getElem?_set]
    by_cases e : lst h s (k + 1) = p
    · rw [if_pos e, if_pos (by rw [bL_len]; omega), if_pos e.symm, e]
    · rw [if_neg e, if_neg (fun z => e z.symm), bL_get _ _ _ _ _ hp]
  · rw [List.getElem?_eq_none (by rw [List.length_set, bL_len]; omega), List.getElem?_eq_none (by rw [bL_len]; omega)]
theorem eL_set (h : Nat → Int) (n s k : Nat) (hk : s + k < n) : (eL h n s k).set (lst h s (k + 1)) ((max (eF h n s k (lst h s (k + 1))) (s + k) : Nat) : Int) = eL h n s (k + 1) := by
  apply List.ext_getElem?
  intro p
  by_cases hp : p < n
  · rw [eL_get _ _ _ _ _ hp, eF_step h n s k p hk hp, List.getElem?_set]
    by_cases e : lst h s (k + 1) = p
    · rw [if_pos e, if_pos (by rw [eL_len]; omega), if_pos e.symm, e]
    · rw [if_neg e, if_neg (fun z => e z.symm), eL_get _ _ _ _ _ hp]
  · rw [List.getElem?_eq_none (by rw [List.length_set, eL_len]; omega), List.getElem?_eq_none (by rw [eL_len]; omega)]
theorem bL_next (h : Nat → Int) (n s : Nat) (hs : s < n) : bL h n s (n - s) = bL h n (s + 1) 0 :=
  List.map_congr_left fun p hp => by rw [bF_next h n s p hs (List.mem_range.mp hp)]
theorem eL_next (h : Nat → Int) (n s : Nat) (hs : s < n) : eL h n s (n - s) = eL h n (s + 1) 0 :=
  List.map_congr_left fun p hp => by rw [eF_next h n s p hs (List.mem_range.mp hp)]
theorem bL_zero (h : Nat → Int) (n : Nat) : bL h n 0 0 = (List.range n).map fun (p : Nat) => (p : Int) := List.map_congr_left fun p hp => by rw [bF_zero]
theorem eL_zero (h : Nat → Int) (n : Nat) : eL h n 0 0 = (List.range n).map fun (p : Nat) => (p : Int) := List.map_congr_left fun p hp => by rw [eF_zero]
/-- the ways back and on, step by step -/
theorem bk_step (h : Nat → Int) (p i : Nat) (hi : i < p - bk h p) : 0 < p - i ∧ h p < h (p - i - 1) := by
  have := bk_le h p
  exact ⟨by omega, bk_gt h p (p - i - 1) (by omega) (by omega)⟩
theorem bk_stop (h : Nat → Int) (p : Nat) (h0 : 0 < bk h p) : ¬ h p < h (bk h p - 1) := fun z => by
  have hle := bk_le h p
  have := (bk_iff h p (bk h p - 1) (by omega)).mpr fun j a c => by
    by_cases e : j = bk h p - 1
    · subst e; exact z
    · exact bk_gt h p j (by omega) c
  omega
theorem on_step (h : Nat → Int) (n p i : Nat) (hp : p < n) (hi : i < on' h n p - p) : p + i < n - 1 ∧ h p ≤ h (p + i + 1) := by
  have := on_lt h n p hp
  exact ⟨by omega, (on_iff h n p (on' h n p) this.1 this.2).mp (Nat.le_refl _) _ (by omega) (by omega)⟩
theorem on_stop (h : Nat → Int) (n p : Nat) (hp : p < n) (h0 : on' h n p < n - 1) : ¬ h p ≤ h (on' h n p + 1) := fun z => by
  have ho := on_lt h n p hp
  have := (on_iff h n p (on' h n p + 1) (by omega) (by omega)).mpr fun j a c => by
    by_cases e : j = on' h n p + 1
    · subst e; exact z
    · exact (on_iff h n p (on' h n p) ho.1 ho.2).mp (Nat.le_refl _) j a (by omega)
  omega
end Mine


local macro_rules | `(tactic| walk_at "m_putU") => `(tactic| first | with_reducible exact Mine.PutU.here | (with_reducible apply Mine.PutU.there; walk_at "m_putU"))
open PySem PySem.W PyProof.Rows PySem.W.X

namespace Mine
open PySem PySem.Calls PyProof.Rows


theorem blk_if_join {X : Cx} {W : List Addr} {ρ ρ' : List (Str × Ent)} {N : Nrm} {R : Rtn} {e : Expr} {body rest : List Stmt} {pos : Pos} {c : Bool} (h : Tst X W ρ e c) (ht : c = true → Blk X W ρ body (fun P s => OkP X W P ρ' s) R) (hf : c = false → Fgt ρ ρ') (n : Blk X W ρ' rest N R) : Blk X W ρ (.If e body [] pos :: rest) N R :=
  blk_if_ret h (fun z => blk_mono (ht z) fun P s ok => n P s ok) fun z P s ok => n P s (ok.fgt (hf z))
noncomputable def numsF (ns : List Int) : List Int := heapsTo 10 ns ns.length ++ [2, 1, 0]
theorem numsF_len (ns : List Int) : 3 ≤ (numsF ns).length ∧ (numsF ns).length ≤ 13 := by
  have h := heapsTo_len 10 ns ns.length
  have hmin : Nat.min ns.length 10 = min ns.length 10 := rfl
  simp only [numsF, List.length_append, List.length_cons, List.length_nil]
  omega
noncomputable def hF (zs : List Int) (i : Nat) : Int := (zs.getD i 0).fdiv 2
theorem zs_at {zs : List Int} {i : Nat} (h : i < zs.length) : itemAt (zs.map D.int) (i : Int) = some (.int (zs.getD i 0)) := by
  unfold itemAt
  rw [if_pos (by omega), List.getElem?_map, Int.toNat_natCast]
  simp [h]
theorem key_at {c : KC} {zs : List Int} {i : Nat} (h : i < zs.length) : itemAt (zs.map (keyD c)) (i : Int) = some (keyD c (zs.getD i 0)) := by
  unfold itemAt
  rw [if_pos (by omega), List.getElem?_map, Int.toNat_natCast]
  simp [h]
theorem own_at {ls : List Int} {i : Nat} {x : Int} (h : ls[i]? = some x) : itemAt (ls.map D.int) (i : Int) = some (.int x) := by
  unfold itemAt
  rw [if_pos (by omega), List.getElem?_map, Int.toNat_natCast, h]
  rfl

noncomputable abbrev listD (l : List Int) : D := .list (l.map .int)
noncomputable abbrev keysD (c : KC) (l : List Int) : D := .list (l.map (keyD c))
noncomputable abbrev ρs (ns : List Int) (c : KC) (aG aE aH aC : Addr) (nu ke si be en st le ed pl ba on : Ent) : List (Str × Ent) :=
  [(Str.ofString "script", .val true (listD ns)), (Str.ofString "make", .val true (.val (.ref c.C))), (Str.ofString "numbers", nu), (Str.ofString "keys", ke), (Str.ofString "size", si), (Str.ofString "begins", be), (Str.ofString "ends", en), (Str.ofString "start", st), (Str.ofString "least", le), (Str.ofString "end", ed), (Str.ofString "place", pl), (Str.ofString "back", ba), (Str.ofString "on", on),
   (Str.ofString "cmp_to_key", .gl (.ref aC)), (Str.ofString "_law_heaps", .gl (.ref aH)), (Str.ofString "len", .gl (.builtin "len")), (Str.ofString "list", .gl (.type "list")), (Str.ofString "range", .gl (.type "range")), (Str.ofString "min", .gl (.builtin "min")), (Str.ofString "max", .gl (.builtin "max")), (Str.ofString "_gt_from_lt", .gl (.ref aG)), (Str.ofString "_ge_from_lt", .gl (.ref aE))]

theorem gt_h {zs : List Int} {i j : Nat} : (!decide (cmpF (zs.getD i 0) (zs.getD j 0) < 0) && !(cmpF (zs.getD i 0) (zs.getD j 0) == 0)) = decide (hF zs j < hF zs i) := by
  unfold cmpF hF
  rw [Bool.eq_iff_iff]
  simp only [Bool.and_eq_true, Bool.not_eq_true', decide_eq_false_iff_not, beq_eq_false_iff_ne, ne_eq, decide_eq_true_eq]
  omega
theorem ge_h {zs : List Int} {i j : Nat} : (!decide (cmpF (zs.getD i 0) (zs.getD j 0) < 0)) = decide (hF zs j ≤ hF zs i) := by
  unfold cmpF hF
  rw [Bool.eq_iff_iff]
  simp only [Bool.not_eq_true', decide_eq_false_iff_not, decide_eq_true_eq]
  omega

set_option maxHeartbeats 4000000 in
theorem law_spec {X : Cx} {aG aE aH aC : Addr} {c : KC} (F : Fine X) (G : Lw X.B aG aE aH aC) (K : KW X.B c) (hn : 6 ≤ X.n) (hκ : X.κ = closable (fScope stL).names) (ns : List Int) (hl : ns.length ≤ 63) :
    Blk X [] (ρs ns c aG aE aH aC .un .un .un .un .un .un .un .un .un .un .un) (fBody stL).tail (fun _ _ => False) (Ret X [] .f (.bool true)) := by
  have hnl := numsF_len ns
  refine assign F (Ev.toS (Ev.cast (ev_cat (ev_call F (by walk_at "m_mem") (evTs_cons (ev_val F (by walk_at "m_mem")) evTs_nil) (heaps_spec G (by omega) ns hl) G.dH.keep) (ev_list (evs_cons (Ev.flat ev_int) (evs_cons (Ev.flat ev_int) (evs_cons (Ev.flat ev_int) evs_nil)))) ?_) (d' := listD (numsF ns)) ?_)) (by walk_at "m_put") ?_
  · have h := heapsTo_len 10 ns ns.length
    have hmin : Nat.min ns.length 10 = min ns.length 10 := rfl
    rw [List.length_map, h, hmin]; simp; omega
  · show D.list _ = D.list _
    rw [numsF, List.map_append]; rfl
  generalize hz : numsF ns = zs at hnl ⊢
  have hz1 : (zs.map D.int).length ≤ 1000000 := by rw [List.length_map]; omega
  have hz2 : (zs.map (keyD c)).length ≤ 1000000 := by rw [List.length_map]; omega
  -- keys
  refine assign_comp (α := Int) (xs := zs) (φ := D.int) (out := fun x => [keyD c x]) (ρ' := ρs ns c aG aE aH aC (.val true (listD zs)) (.val true (keysD c zs)) .un .un .un .un .un .un .un .un .un) F (by decide +kernel) rfl (kap (by rw [hκ]; decide +kernel)) ⟨_, .head _⟩
    (.loc (.loc (.free (by walk_at "m_mem") rfl .nil))) (src_list (ev_val F (by walk_at "m_mem"))) ?_ ?_ ?_ ?_
  · intro X2 W2 acc hB2 hn2 hκ2 F2 ac x hx
    have K2 : KW X2.B c := hB2 ▸ K
    refine ⟨_, true, tgtC_name F2 (by walk_at "m_putU"), tstAll_nil, fun _ no => inner_emit F2 ac no rfl (Ev.toS (ev_callv F2 (by walk_at "m_mem") (evTs_cons (ev_val F2 (by walk_at "m_mem")) evTs_nil) (callV_make (n := 0) K2.kin init_st (by omega) rfl) (keepOk_cls K2.kin))), fun h => by cases h⟩
  · rw [flatMap_one]; exact hz2
  · rw [flatMap_one]; walk_at "m_put"
  -- size
  refine assign F (Ev.toS (Ev.cast (ev_call F (by walk_at "m_mem") (evTs_cons (ev_val F (by walk_at "m_mem")) evTs_nil) (callV_len hz2) keepOk_builtin) (d' := natD zs.length) (by rw [List.length_map]))) (by walk_at "m_put") ?_
  generalize hN : zs.length = n at hnl ⊢
  have hB0 : ((List.range n).map natD) = (bL (hF zs) n 0 0).map D.int := by rw [bL_zero, List.map_map]; rfl
  have hE0 : ((List.range n).map natD) = (eL (hF zs) n 0 0).map D.int := by rw [eL_zero, List.map_map]; rfl
  refine assign_own (ns := bL (hF zs) n 0 0) F (Ev.cast (ev_listRange F (by walk_at "m_mem") (by walk_at "m_mem") (ev_val F (by walk_at "m_mem")) rfl (by omega)) (by rw [hB0])) (by walk_at "m_putF") fun ab => ?_
  refine assign_own (ns := eL (hF zs) n 0 0) F (Ev.cast (ev_listRange F (by walk_at "m_mem") (by walk_at "m_mem") (ev_val F (by walk_at "m_mem")) rfl (by omega)) (by rw [hE0])) (by walk_at "m_putF") fun ae => ?_
  -- the runs
  refine for_rangeN (m := n) F (fun s => ρs ns c aG aE aH aC (.val true (listD zs)) (.val true (keysD c zs)) (.val true (natD n)) (.own ab (bL (hF zs) n s 0)) (.own ae (eL (hF zs) n s 0)) .un .un .un .un .un .un) (by walk_at "m_mem") (ev_val F (by walk_at "m_mem")) rfl (by omega) (by walk_at "m_fgt") ?_ ?_
  · intro s hs
    refine ⟨_, tgt_name F (by walk_at "m_put"), assign F (ev_val F (by walk_at "m_mem")) (by walk_at "m_put") ?_⟩
    refine for_range F (fun k => ρs ns c aG aE aH aC (.val true (listD zs)) (.val true (keysD c zs)) (.val true (natD n)) (.own ab (bL (hF zs) n s k)) (.own ae (eL (hF zs) n s k)) (.val true (natD s)) (.val true (natD (lst (hF zs) s k))) .un .un .un .un)
      (src_range2 F (by walk_at "m_mem") (ev_val F (by walk_at "m_mem")) (ev_val F (by walk_at "m_mem")) (by omega) (by omega) (by omega) (by omega)) (by walk_at "m_fgt") ?_ ?_
    · intro k hk
      have hk' : s + k < n := by omega
      have ek : (s : Int) + (k : Int) = ((s + k : Nat) : Int) := by omega
      have hL0 : lst (hF zs) s k < n := by
        cases k with
        | zero => exact hs
        | succ k => have := lst_in (hF zs) s k; omega
      have hL := lst_in (hF zs) s k
      have hL1 : lst (hF zs) s (k + 1) < n := by omega
      rw [ek]
      refine ⟨_, tgt_name F (by walk_at "m_put"), ?_⟩
      refine blk_if_join (c := decide (hF zs (s + k) < hF zs (lst (hF zs) s k))) (ρ' := ρs ns c aG aE aH aC (.val true (listD zs)) (.val true (keysD c zs)) (.val true (natD n)) (.own ab (bL (hF zs) n s k)) (.own ae (eL (hF zs) n s k)) (.val true (natD s)) (.val true (natD (lst (hF zs) s (k + 1)))) (.val true (natD (s + k))) .un .un .un)
        (tst_cmp F (ev_fdiv (ev_item (ev_val F (by walk_at "m_mem")) (ev_val F (by walk_at "m_mem")) (zs_at (by omega)) hz1) ev_int (by decide) (by decide)) (ev_fdiv (ev_item (ev_val F (by walk_at "m_mem")) (ev_val F (by walk_at "m_mem")) (zs_at (by omega)) hz1) ev_int (by decide) (by decide)) cmp_lt) ?_ ?_ ?_
      · intro h
        have e : lst (hF zs) s (k + 1) = s + k := by rw [lst, if_pos (by simpa using h)]
        rw [e]
        exact assign F (ev_val F (by walk_at "m_mem")) (by walk_at "m_put") (blk_fgt (by walk_at "m_fgt"))
      · intro h
        have e : lst (hF zs) s (k + 1) = lst (hF zs) s k := by rw [lst, if_neg (by simpa using h)]
        rw [e]
        walk_at "m_fgt"
      · refine assign_item (v := ((min (bF (hF zs) s k (lst (hF zs) s (k + 1))) s : Nat) : Int)) (k := ((lst (hF zs) s (k + 1) : Nat) : Int)) F (by walk_at "m_mem") (Ev.cast (ev_call F (by walk_at "m_mem") (evTs_cons (ev_item (ev_own F (by walk_at "m_mem")) (ev_val F (by walk_at "m_mem")) (own_at (bL_get _ n s k _ hL1)) (by rw [List.length_map, bL_len]; omega)) (evTs_cons (ev_val F (by walk_at "m_mem")) evTs_nil)) callV_min keepOk_builtin) ?_) (ev_val F (by walk_at "m_mem")) (by omega) (by rw [bL_len]; omega) (by rw [bL_len]; omega)
          (ρ' := ρs ns c aG aE aH aC (.val true (listD zs)) (.val true (keysD c zs)) (.val true (natD n)) (.own ab (bL (hF zs) n s (k + 1))) (.own ae (eL (hF zs) n s k)) (.val true (natD s)) (.val true (natD (lst (hF zs) s (k + 1)))) (.val true (natD (s + k))) .un .un .un) (by rw [Int.toNat_natCast, bL_set _ n s k hk']; walk_at "m_put") ?_
        · congr 1; split <;> omega
        refine assign_item (v := ((max (eF (hF zs) n s k (lst (hF zs) s (k + 1))) (s + k) : Nat) : Int)) (k := ((lst (hF zs) s (k + 1) : Nat) : Int)) F (by walk_at "m_mem") (Ev.cast (ev_call F (by walk_at "m_mem") (evTs_cons (ev_item (ev_own F (by walk_at "m_mem")) (ev_val F (by walk_at "m_mem")) (own_at (eL_get _ n s k _ hL1)) (by rw [List.length_map, eL_len]; omega)) (evTs_cons (ev_val F (by walk_at "m_mem")) evTs_nil)) callV_max keepOk_builtin) ?_) (ev_val F (by walk_at "m_mem")) (by omega) (by rw [eL_len]; omega) (by rw [eL_len]; omega)
          (ρ' := ρs ns c aG aE aH aC (.val true (listD zs)) (.val true (keysD c zs)) (.val true (natD n)) (.own ab (bL (hF zs) n s (k + 1))) (.own ae (eL (hF zs) n s (k + 1))) (.val true (natD s)) (.val true (natD (lst (hF zs) s (k + 1)))) (.val true (natD (s + k))) .un .un .un) (by rw [Int.toNat_natCast, eL_set _ n s k hk']; walk_at "m_put") (blk_fgt (by walk_at "m_fgt"))
        congr 1; split <;> omega
    · have e : ((n : Int) - (s : Int)).toNat = n - s := by omega
      rw [e, bL_next _ n s hs, eL_next _ n s hs]
      exact blk_fgt (by walk_at "m_fgt")
  -- the ways
  refine for_rangeN (m := n) F (fun p => ρs ns c aG aE aH aC (.val true (listD zs)) (.val true (keysD c zs)) (.val true (natD n)) (.own ab (bL (hF zs) n n 0)) (.own ae (eL (hF zs) n n 0)) .un .un .un .un .un .un) (by walk_at "m_mem") (ev_val F (by walk_at "m_mem")) rfl (by omega) (by walk_at "m_fgt") ?_ (ret_flat ev_bool)
  intro p hp
  have hble := bk_le (hF zs) p
  have hol := on_lt (hF zs) n p hp
  refine ⟨_, tgt_name F (by walk_at "m_put"), assign F (ev_val F (by walk_at "m_mem")) (by walk_at "m_put") ?_⟩
  refine blk_while F (fun i => ρs ns c aG aE aH aC (.val true (listD zs)) (.val true (keysD c zs)) (.val true (natD n)) (.own ab (bL (hF zs) n n 0)) (.own ae (eL (hF zs) n n 0)) .un .un .un (.val true (natD p)) (.val true (natD (p - i))) .un) (p - bk (hF zs) p) (fun s ok => ok.fgt (by walk_at "m_fgt")) ?_ ?_ ?_
  · intro i hi
    obtain ⟨h1, h2⟩ := bk_step (hF zs) p i hi
    have e1 : ((p - i : Nat) : Int) - 1 = ((p - i - 1 : Nat) : Int) := by omega
    refine ⟨Tst.cast (tst_and (tst_cmp F (ev_val F (by walk_at "m_mem")) ev_int cmp_gt) fun _ => tst_bool (ev_call F (by walk_at "m_mem") (evTs_cons (ev_item (ev_val F (by walk_at "m_mem")) (Ev.cast (ev_sub (ev_val F (by walk_at "m_mem")) ev_int) (congrArg D.int e1)) (key_at (by omega)) hz2) (evTs_cons (ev_item (ev_val F (by walk_at "m_mem")) (ev_val F (by walk_at "m_mem")) (key_at (by omega)) hz2) evTs_nil)) (gt_spec G K (by omega) _ _) G.dG.keep)) ?_, ?_⟩
    · rw [gt_h]
      simp only [Bool.and_eq_true, decide_eq_true_eq]
      exact ⟨by omega, h2⟩
    · refine aug_sub F (by walk_at "m_mem") ev_int (by walk_at "m_put") ?_
      have e2 : ((p - i : Nat) : Int) - 1 = ((p - (i + 1) : Nat) : Int) := by omega
      rw [e2]
      exact blk_fgt (by walk_at "m_fgt")
  · have e : p - (p - bk (hF zs) p) = bk (hF zs) p := by omega
    rw [e]
    by_cases h0 : 0 < bk (hF zs) p
    · have e1 : ((bk (hF zs) p : Nat) : Int) - 1 = ((bk (hF zs) p - 1 : Nat) : Int) := by omega
      refine Tst.cast (tst_and (tst_cmp F (ev_val F (by walk_at "m_mem")) ev_int cmp_gt) fun _ => tst_bool (ev_call F (by walk_at "m_mem") (evTs_cons (ev_item (ev_val F (by walk_at "m_mem")) (Ev.cast (ev_sub (ev_val F (by walk_at "m_mem")) ev_int) (congrArg D.int e1)) (key_at (by omega)) hz2) (evTs_cons (ev_item (ev_val F (by walk_at "m_mem")) (ev_val F (by walk_at "m_mem")) (key_at (by omega)) hz2) evTs_nil)) (gt_spec G K (by omega) _ _) G.dG.keep)) ?_
      rw [gt_h]
      have := bk_stop (hF zs) p h0
      simp only [Bool.and_eq_false_iff, decide_eq_false_iff_not]
      exact .inr this
    · refine Tst.cast (tst_and (c' := false) (tst_cmp F (ev_val F (by walk_at "m_mem")) ev_int cmp_gt) fun z => ?_) ?_
      · simp only [decide_eq_true_eq] at z; omega
      · rw [Bool.and_false]
  have e : p - (p - bk (hF zs) p) = bk (hF zs) p := by omega
  rw [e]
  refine assign F (ev_val F (by walk_at "m_mem")) (by walk_at "m_put") ?_
  refine blk_while F (fun i => ρs ns c aG aE aH aC (.val true (listD zs)) (.val true (keysD c zs)) (.val true (natD n)) (.own ab (bL (hF zs) n n 0)) (.own ae (eL (hF zs) n n 0)) .un .un .un (.val true (natD p)) (.val true (natD (bk (hF zs) p))) (.val true (natD (p + i)))) (on' (hF zs) n p - p) (fun s ok => ok.fgt (by walk_at "m_fgt")) ?_ ?_ ?_
  · intro i hi
    obtain ⟨h1, h2⟩ := on_step (hF zs) n p i hp hi
    have e1 : ((p + i : Nat) : Int) + 1 = ((p + i + 1 : Nat) : Int) := by omega
    refine ⟨Tst.cast (tst_and (tst_cmp F (ev_val F (by walk_at "m_mem")) (ev_sub (ev_val F (by walk_at "m_mem")) ev_int) cmp_lt) fun _ => tst_bool (ev_call F (by walk_at "m_mem") (evTs_cons (ev_item (ev_val F (by walk_at "m_mem")) (Ev.cast (ev_add (ev_val F (by walk_at "m_mem")) ev_int) (congrArg D.int e1)) (key_at (by omega)) hz2) (evTs_cons (ev_item (ev_val F (by walk_at "m_mem")) (ev_val F (by walk_at "m_mem")) (key_at (by omega)) hz2) evTs_nil)) (ge_spec G K (by omega) _ _) G.dE.keep)) ?_, ?_⟩
    · rw [ge_h]
      simp only [Bool.and_eq_true, decide_eq_true_eq]
      exact ⟨by omega, h2⟩
    · refine aug_add F (by walk_at "m_mem") ev_int (by walk_at "m_put") ?_
      rw [e1]
      exact blk_fgt (by walk_at "m_fgt")
  · have e : p + (on' (hF zs) n p - p) = on' (hF zs) n p := by omega
    rw [e]
    by_cases h0 : on' (hF zs) n p < n - 1
    · have e1 : ((on' (hF zs) n p : Nat) : Int) + 1 = ((on' (hF zs) n p + 1 : Nat) : Int) := by omega
      refine Tst.cast (tst_and (tst_cmp F (ev_val F (by walk_at "m_mem")) (ev_sub (ev_val F (by walk_at "m_mem")) ev_int) cmp_lt) fun _ => tst_bool (ev_call F (by walk_at "m_mem") (evTs_cons (ev_item (ev_val F (by walk_at "m_mem")) (Ev.cast (ev_add (ev_val F (by walk_at "m_mem")) ev_int) (congrArg D.int e1)) (key_at (by omega)) hz2) (evTs_cons (ev_item (ev_val F (by walk_at "m_mem")) (ev_val F (by walk_at "m_mem")) (key_at (by omega)) hz2) evTs_nil)) (ge_spec G K (by omega) _ _) G.dE.keep)) ?_
      rw [ge_h]
      have := on_stop (hF zs) n p hp h0
      simp only [Bool.and_eq_false_iff, decide_eq_false_iff_not]
      exact .inr this
    · refine Tst.cast (tst_and (c' := false) (tst_cmp F (ev_val F (by walk_at "m_mem")) (ev_sub (ev_val F (by walk_at "m_mem")) ev_int) cmp_lt) fun z => ?_) ?_
      · simp only [decide_eq_true_eq] at z; omega
      · rw [Bool.and_false]
  have e : p + (on' (hF zs) n p - p) = on' (hF zs) n p := by omega
  rw [e]
  refine blk_if_ret (c := false) (tst_cmp F (ev_tuple (evs_cons (ev_val F (by walk_at "m_mem")) (evs_cons (ev_val F (by walk_at "m_mem")) evs_nil))) (ev_tuple (evs_cons (ev_item (ev_own F (by walk_at "m_mem")) (ev_val F (by walk_at "m_mem")) (own_at (bL_get _ n n 0 p hp)) (by rw [List.length_map, bL_len]; omega)) (evs_cons (ev_item (ev_own F (by walk_at "m_mem")) (ev_val F (by walk_at "m_mem")) (own_at (eL_get _ n n 0 p hp)) (by rw [List.length_map, eL_len]; omega)) evs_nil))) (cmp_neD (c := true) (n := 1) (k := 1) rfl rfl (by decide) (by decide) ?_)) (fun h => by cases h) fun _ => blk_fgt (by walk_at "m_fgt")
  rw [bF_end _ n p hp, eF_end _ n p hp]
  simp
end Mine


set_option maxHeartbeats 8000000
theorem PySem.Challenge.cw_dm0116_12_holds : PySem.Challenge.rw_dm0116_12.Holds := by
  w_on
  o_law
  k_head
  (case hw => w_witness2)
  k_fill
  intro w s₀ s₁ mg mb G Y fa o pm cd doc dV kV ho hd hcd hD hmg hg args vals as hpre hlay hrd hwl hlo
  have KX := km_in_of Y
  refine Ground.open G ?_
  intro T B D TE TW
  wrow_args hpre hlay hrd hwl hlo
  rename_i ns hs hlay0 hL1 hr1 hl2 l5 l4 a vs l1 hL ra w1 r0 hI hrr hc1 hc2
  clear B D TE TW Y hD hcd hd
  obtain ⟨aG, eG, dG⟩ := Mine.fn_base (prog := PySem.Challenge.rw_dm0116_12.row.prog) (w := w) T (st := Mine.stAt Mine.pg 1) (.head _) rfl rfl rfl rfl rfl rfl (by decide +kernel)
  obtain ⟨aE, eE, dE⟩ := Mine.fn_base (prog := PySem.Challenge.rw_dm0116_12.row.prog) (w := w) T (st := Mine.stAt Mine.pg 2) (.tail _ (.head _)) rfl rfl rfl rfl rfl rfl (by decide +kernel)
  obtain ⟨aC, eC, dC⟩ := Mine.fn_base (prog := PySem.Challenge.rw_dm0116_12.row.prog) (w := w) T (st := Mine.stAt Mine.pg 3) (.tail _ (.tail _ (.head _))) rfl rfl rfl rfl rfl rfl (by decide +kernel)
  obtain ⟨aH, eH, dH⟩ := Mine.fn_base (prog := PySem.Challenge.rw_dm0116_12.row.prog) (w := w) T (st := Mine.stAt Mine.pg 5) (.tail _ (.tail _ (.tail _ (.head _)))) rfl rfl rfl rfl rfl rfl (by decide +kernel)
  have LW : Mine.Lw (Mine.base0 PySem.Challenge.rw_dm0116_12.row.prog w T) aG aE aH aC :=
    { len := Mine.glob_bi T _ (by decide +kernel) rfl
      min := Mine.glob_bi T _ (by decide +kernel) rfl
      max := Mine.glob_bi T _ (by decide +kernel) rfl
      range := Mine.glob_bi T _ (by decide +kernel) rfl
      list := Mine.glob_bi T _ (by decide +kernel) rfl
      type := Mine.glob_bi T _ (by decide +kernel) rfl
      ni := Mine.glob_bi T _ (by decide +kernel) rfl
      gC := .inl eC
      gG := .inl eG
      gE := .inl eE
      gH := .inl eH
      dG := dG
      dE := dE
      dH := dH }
  have hl : ns.length ≤ 63 := by omega
  refine' Mine.law_mk (aC := aC) (n := 6) (b := true) (stL := Mine.stL) (stC := Mine.stC) (k := Mine.kS) (pl := (Str.ofString "size", .un)) KX
    (params := Mine.lamP (Mine.st0 Mine.stL)) (body := Mine.lamB (Mine.st0 Mine.stL)) (scope := Mine.lamS (Mine.st0 Mine.stL)) (rest := (Mine.fBody Mine.stL).tail)
    rfl rfl
    (.loc (.cell (.loc (.loc (.loc (.loc (.loc (.loc (.loc (.loc (.loc (.loc (.loc (.glob LW.gC (.glob LW.gH (.glob LW.len (.glob LW.list (.glob LW.range (.glob LW.min (.glob LW.max (.glob LW.gG (.glob LW.gE .nil))))))))))))))))))))))
    (.here rfl) (.there (.here rfl)) (by intro p hp; revert p hp; simp [Mine.Ent.simple]) (by simp) rfl (by simp)
    (fun _ => rfl) (fun _ => rfl) rfl rfl rfl (by decide +kernel) (fun _ => rfl)
    (.tail _ (.tail _ (.tail _ (.tail _ (.head _))))) rfl rfl rfl rfl rfl rfl rfl (by decide +kernel)
    Mine.cmp_st Mine.kS_ok (.tail _ (.tail _ (.head _))) rfl rfl rfl rfl rfl rfl rfl (by decide +kernel)
    rfl (tC := ?zC) rfl (tL := ?zL) (q1 := ?z1) (q2 := ?z2) (q3 := ?z3) (q4 := ?z4) (n1 := ?y1) (n2 := ?y2) (n3 := ?y3) (n4 := ?y4) (n5 := ?y5) hmg eC (Mine.well_list w1 hL) hI hg (by decide) (by decide) (fun _ => rfl) ?zpost ?zrun
  case zC => exact rfl
  case zL => exact rfl
  case z1 => exact rfl
  case z2 => exact rfl
  case z3 => exact Mine.sm_of (T.seer rfl)
  case z4 => exact rfl
  case y1 => decide
  case y2 => decide
  case y3 => decide
  case y4 => decide
  case y5 => decide
  case zpost => first | rfl | wrow_post
  case zrun =>
    intro X kc lam qual pm c' ctv ks ekc fb F hn hκ g d hop
    exact Mine.law_spec F (LW.re g d) ⟨ks.kin, ⟨lam, qual, pm, c', ctv, ekc, fb⟩, hop⟩ (by omega) hκ ns hl
